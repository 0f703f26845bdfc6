import PyProof.Rows.All
import Wide.All
import OpenK.AllK
import Wide.FinOn
import PySem.Challenge.RW_ke0006_01
set_option maxRecDepth 100000
set_option maxHeartbeats 0
set_option Elab.async false
set_option compiler.extract_closed false
set_option linter.unusedSimpArgs false
set_option linter.unusedVariables false
set_option rowWalk.seconds 0
open PySem PySem.W PyProof.Rows PySem.Spec PySem.Calls
namespace Mine
local macro_rules | `(tactic| walk_at $s:str) => `(tactic| k_extra $(Lean.Syntax.mkStrLit ("m " ++ s.getString)))
local macro_rules | `(tactic| k_mem) => `(tactic| k_extra "k_mem")
local macro_rules | `(tactic| k_room) => `(tactic| k_extra "k_room")
local macro_rules | `(tactic| k_units) => `(tactic| k_extra "k_units")
local macro_rules | `(tactic| k_all) => `(tactic| k_extra "k_all")
local macro_rules | `(tactic| k_ne) => `(tactic| k_extra "k_ne")
local macro_rules | `(tactic| size_fits) => `(tactic| k_extra "size_fits")
theorem kw0 : True := by
  w_top off
  k_with "k_ne" => ((try dsimp only); with_reducible first | exact Nat.ne_of_lt (by k_extra "mine lt") | exact Nat.ne_of_gt (by k_extra "mine lt") | fail)
  k_with "mine lt" => (first | assumption | (refine Nat.lt_trans (by assumption) ?_; k_extra "mine lt"))
  trivial
section
/-- the built-ins whose activation may hold a bytearray fast -/
def holders : List String := ["bytearray.__contains__", "bytearray.__mod__", "bytearray.__rmod__", "_struct.pack_into.held", "bytearray.find.held"] ++ Builtin.Bytes.decodersThatHold
def freeCode : Code → Bool
  | .builtin id _ => !holders.contains id
  | _ => true
def FreeAll (l : List (Code × Pos)) : Prop := ∀ q ∈ l, freeCode q.1 = true
section
variable {M : Model} {A : Around} {E : Value → Shared → Prop} {s : Shared}
/-- a tree's run where no activation on the stack holds a bytearray -/
def wpC {α : Type} (M : Model) (A : Around) (t : Sem α) (Q : α → Shared → Prop) (E : Value → Shared → Prop) (s : Shared) : Prop :=
  ∀ Γ p, Γ.In A → freeCode Γ.code = true → FreeAll Γ.below → Sem.wp M Γ t (fun a _ s' => Q a s') (fun e _ s' => E e s') p s
def codeC (M : Model) (A : Around) (c : Code) (R : Result → Shared → Prop) (s : Shared) : Prop :=
  ∀ Γ p, Γ.code = c → Γ.Below A → FreeAll Γ.below → wpCode M Γ R p s
theorem wpC_of {α : Type} {t : Sem α} {Q : α → Shared → Prop} (h : wpAny M A t Q E s) : wpC M A t Q E s := fun Γ p hΓ _ _ => h Γ p hΓ
theorem codeC_of {c : Code} {R : Result → Shared → Prop} (h : codeAny M A c R s) : codeC M A c R s := fun Γ p hc hΓ _ => h Γ p hc hΓ
theorem wpC_mono {α : Type} {t : Sem α} {Q Q' : α → Shared → Prop} {E' : Value → Shared → Prop} (h : wpC M A t Q E s) (hQ : ∀ a s, Q a s → Q' a s) (hE : ∀ e s, E e s → E' e s) : wpC M A t Q' E' s :=
  fun Γ p hΓ h1 h2 => Sem.wp_mono M Γ t (fun a _ s => hQ a s) (fun e _ s => hE e s) p s (h Γ p hΓ h1 h2)
theorem codeC_mono {c : Code} {R R' : Result → Shared → Prop} (h : codeC M A c R s) (hR : ∀ r s, R r s → R' r s) : codeC M A c R' s := fun Γ p hc hΓ hf => wpCode_mono hR (h Γ p hc hΓ hf)
theorem wpC_bind {α β : Type} {m : Sem α} {f : α → Sem β} {Q : β → Shared → Prop} (h : wpC M A m (fun a s' => wpC M A (f a) Q E s') E s) : wpC M A (m >>= f) Q E s := fun Γ p hΓ h1 h2 => by
  rw [Sem.wp_bind']
  exact Sem.wp_mono M Γ m (fun a p' s' h' => h' Γ p' hΓ h1 h2) (fun _ _ _ h' => h') p s (h Γ p hΓ h1 h2)
theorem wpC_bindA {α β : Type} {m : Sem α} {f : α → Sem β} {Q : β → Shared → Prop} (h : wpAny M A m (fun a s' => wpC M A (f a) Q E s') E s) : wpC M A (m >>= f) Q E s := wpC_bind (wpC_of h)
theorem wpC_pure {α : Type} {a : α} {Q : α → Shared → Prop} (h : Q a s) : wpC M A (Pure.pure a) Q E s := wpC_of (wpAny_pure h)
theorem wpC_holding {α : Type} {vs : List Value} {m : Sem α} {Q : α → Shared → Prop} (h : wpC M A m Q E s) : wpC M A (holding vs m) Q E s := fun Γ p hΓ h1 h2 => by
  rw [Sem.wp_holding]; exact h Γ p hΓ h1 h2
theorem wpC_runValue {c : Code} {Q : Value → Shared → Prop}
    (hc : codeC M A c (fun r s' => match r with | .ok (.ret v) => Q v s' | .ok _ => False | .error e => E e s') s) : wpC M A (runValue c) Q E s := fun Γ p hΓ h1 h2 => by
  rw [Sem.wp_runValue]
  exact hc _ p rfl (hΓ.enter c none p (by intro x; cases x)) (fun q hq => by
    rcases List.mem_cons.mp hq with rfl | hq
    · exact h1
    · exact h2 q hq)
theorem wpC_call {f : Value} {pos : List Value} {kw : List (Str × Value)} {Q : Value → Shared → Prop}
    (hc : codeC M A (.call f ⟨pos, kw⟩) (fun r s' => match r with | .ok (.ret v) => Q v s' | .ok _ => False | .error e => E e s') s) : wpC M A (call f pos kw) Q E s := wpC_runValue hc
theorem codeC_of_tree {c : Code} {R : Result → Shared → Prop} (hf : freeCode c = true)
    (h : wpC M (A.under c) (M.den c) (fun fin s' => match fin with | .done f => R (.ok f) s' | .again c' => c'.quiet = true ∧ codeC M A c' R s') (fun e s' => R (.error e) s') s) : codeC M A c R s := fun Γ p hc hΓ hb => by
  rw [wpCode_iff_wp, hc]
  refine Sem.wp_mono M Γ _ (fun fin p' s' h' => ?_) (fun _ _ _ h' => h') p s (h Γ p (hc ▸ hΓ.in) (hc ▸ hf) hb)
  cases fin with
  | done f => exact h'
  | again c' => exact ⟨h'.1, h'.2 (Γ.goto c') p' rfl (hΓ.goto c') hb⟩
theorem wpC_stack {Q : List (Code × Pos) → Shared → Prop} (h : ∀ st, FreeAll st → Q st s) : wpC M A stack Q E s := fun Γ p hΓ h1 h2 => by
  show Q ((Γ.code, p) :: Γ.below) s
  exact h _ (fun q hq => by
    rcases List.mem_cons.mp hq with rfl | hq
    · exact h1
    · exact h2 q hq)
theorem holders_split (id : String) : holders.contains id = ((["bytearray.__contains__", "bytearray.__mod__", "bytearray.__rmod__", "_struct.pack_into.held", "bytearray.find.held"] : List String).contains id || Builtin.Bytes.decodersThatHold.contains id) := by
  unfold holders
  simp only [List.contains_eq_mem, List.mem_append, Bool.decide_or]
theorem free_id {id : String} {args : Args} (h : freeCode (.builtin id args) = true) : holders.contains id = false := by
  have h2 : (!holders.contains id) = true := h
  rwa [Bool.not_eq_true'] at h2
theorem free_not {id : String} {args : Args} (h : freeCode (.builtin id args) = true) (h2 : holders.contains id = true) : False := by
  rw [free_id h] at h2
  cases h2
theorem wpC_exported {self : Value} {Q : Bool → Shared → Prop} (h : Q false s) : wpC M A (Builtin.Bytes.exported self) Q E s := by
  unfold Builtin.Bytes.exported
  refine wpC_bind (wpC_stack fun st hst => wpC_pure ?_)
  have e : ∀ (f : Code × Pos → Bool), (∀ q, freeCode q.1 = true → f q = false) → st.any f = false := fun f hf => by
    rw [List.any_eq_false]
    intro q hq
    rw [hf q (hst q hq)]
    exact Bool.false_ne_true
  rw [e _ ?_]
  · exact h
  · rintro ⟨c, p⟩ hc
    cases c with
    | builtin id args =>
      obtain ⟨pos, kw⟩ := args
      have k : ∀ x : String, holders.contains x = true → ¬ id = x := fun x hx e => by subst e; exact free_not hc hx
      unfold Builtin.Bytes.exported.match_1
      refine (dif_neg (k "bytearray.__contains__" (by decide))).trans ?_
      refine (dif_neg (k "bytearray.__mod__" (by decide))).trans ?_
      refine (dif_neg (k "bytearray.__rmod__" (by decide))).trans ?_
      refine (dif_neg (k "_struct.pack_into.held" (by decide))).trans ?_
      refine (dif_neg (k "bytearray.find.held" (by decide))).trans ?_
      cases pos with
      | nil => rfl
      | cons v r =>
        show (_ && Builtin.Bytes.decodersThatHold.contains id) = false
        have h2 := free_id (show freeCode (.builtin id _) = true from hc)
        rw [holders_split] at h2
        rw [(Bool.or_eq_false_iff.mp h2).2, Bool.and_false]
    | _ => rfl
end
section
variable {M : Model} {A : Around} {E : Value → Shared → Prop} {env : Env}
theorem execsC_app : ∀ (l₁ : List Stmt) {l₂ : List Stmt} {s : Shared} {Q : Flow → Shared → Prop}, wpC M A (execs l₁ env) (fun f s' => match f with | .next => wpC M A (execs l₂ env) Q E s' | f => Q f s') E s → wpC M A (execs (l₁ ++ l₂) env) Q E s := by
  intro l₁ l₂ s Q h Γ p hΓ h1 h2
  have key : ∀ (l : List Stmt) (p : _) (s : Shared), Sem.wp M Γ (execs l env) (fun f _ s' => match f with | .next => wpC M A (execs l₂ env) Q E s' | f => Q f s') (fun e _ s' => E e s') p s → Sem.wp M Γ (execs (l ++ l₂) env) (fun f _ s' => Q f s') (fun e _ s' => E e s') p s := by
    intro l
    induction l with
    | nil =>
      intro p s h
      exact (show wpC M A (execs l₂ env) Q E s from h) Γ p hΓ h1 h2
    | cons st r ih =>
      intro p s h
      rw [execs_cons, Sem.wp_bind'] at h
      rw [List.cons_append, execs_cons, Sem.wp_bind']
      refine Sem.wp_mono M Γ _ (fun f p' s' h' => ?_) (fun _ _ _ h' => h') _ _ h
      cases f
      · exact ih _ _ h'
      all_goals exact h'
  exact key l₁ p s (h Γ p hΓ h1 h2)
theorem execC_one {st : Stmt} {s : Shared} {Q : Flow → Shared → Prop} (h : wpC M A (exec st env) Q E s) : wpC M A (execs [st] env) Q E s := fun Γ p hΓ h1 h2 => by
  rw [execs_cons, Sem.wp_bind']
  refine Sem.wp_mono M Γ _ (fun f p' s' h' => ?_) (fun _ _ _ h' => h') _ _ (h Γ p hΓ h1 h2)
  cases f <;> exact h'
theorem wpC_Assign_Name {x : Str} {pos' : Pos} {value : Expr} {pos : Pos} {s : Shared} {Q : Flow → Shared → Prop}
    (h : wpC M A (eval value env) (fun v s₁ => wpC M A (storeName env x v) (fun _ => Q .next) E s₁) E s)
    (hs : swapsWith value (some (.Name x pos')) pos.line env = pure false := by rfl) :
    wpC M A (exec (.Assign [.Name x pos'] value pos) env) Q E s := fun Γ p hΓ h1 h2 => by
  simp only [exec_Assign_Name env x pos' value pos hs, Sem.wp_bind', Sem.wp_cmd_standAt, Sem.wp_bindName, Sem.wp_pure']
  exact Sem.wp_mono M Γ _ (fun v _ s₁ h₁' => h₁' Γ _ hΓ h1 h2) (fun _ _ _ h' => h') _ _ (h Γ _ hΓ h1 h2)
end
end
section
/-- the caller's own place: nothing below it -/
abbrev atCaller : PySem.Ctx := ⟨.builtin "claim.caller" {}, none, none, [], none⟩
theorem wpC_done {M : Model} {t : Sem PySem.Fin} {R : Result → Shared → Prop} {s : Shared}
    (h : wpC M callerA t (fun fin s' => ∃ f, fin = .done f ∧ R (.ok f) s') (fun e s' => R (.error e) s') s) (p : Pos) :
    Sem.wp M atCaller t (Sem.finPost M atCaller R) (fun e _ s' => R (.error e) s') p s := by
  refine Sem.wp_mono M atCaller t (fun fin p' s' h' => ?_) (fun _ _ _ h' => h') p s (h atCaller p caller_in (by decide) (fun q hq => nomatch hq))
  obtain ⟨f, rfl, hf⟩ := h'
  exact hf
theorem callFrom_C {c : ClaimW} {tree : List Value → Sem PySem.Fin} {w : World} {s : Shared} {free : Addr → Prop} {gens : Prop} {kept : Heap → Prop} (hz : s.asleep) (hgens : s.gens = #[])
    (hspec : ∀ args, c.pre args = true → WData.layableAll args = true → ∀ ord : List DictEntry → List DictEntry, (∀ l, (ord l).Perm l) →
      ∃ vs s₁, layAllW c.records (classAt s.heap) w.params ord args s = some (vs, s₁) ∧
        wpC (model c.prog w) callerA (tree vs) (fun fin s' => ∃ f, fin = .done f ∧ (c.Ends s args vs s₁ (.ok f) s' ∧ s'.os = s.os ∧ AllBare s'.gens ∧ kept s'.heap))
          (fun e s' => c.Ends s args vs s₁ (.error e) s' ∧ s'.os = s.os ∧ AllBare s'.gens ∧ kept s'.heap) s₁) :
    c.CallFrom (fun vs => ⟨tree vs, .builtin "claim.caller" {}, default, []⟩) w free gens kept s := by
  intro args hpre hlay ord hord
  obtain ⟨vs, s₁, hlaid, hcode⟩ := hspec args hpre hlay ord hord
  have hal := layAllW_rest _ _ _ hlaid
  obtain ⟨k, r, t₁, t₂, hsched, hrun, hfo, hcase, hos, hkp⟩ := wp_halts_full (M := model c.prog w) (R := fun r s' => c.Ends s args vs s₁ r s' ∧ s'.os = s.os ∧ kept s'.heap) (Shared.asleep_of_life hal.2.2.2 hz)
    (wpC_done (R := fun r s' => (c.Ends s args vs s₁ r s' ∧ s'.os = s.os ∧ kept s'.heap) ∧ leftWithCleanup s'.gens = false)
      (wpC_mono hcode (fun fin s' ⟨f, e, h1, h2, h3, h4⟩ => ⟨f, e, ⟨h1, h2, h4⟩, leftWithCleanup_false_of_bare h3⟩) fun e s' ⟨h1, h2, h3, h4⟩ => ⟨⟨h1, h2, h4⟩, leftWithCleanup_false_of_bare h3⟩) default)
  obtain ⟨eh, _, _, eo, _⟩ := Shared.forget_eq hfo
  have hcase := hcase.congr eh
  have hlife : t₂.heap.life = s.heap.life := (runN_life _ _ _ hrun).trans hal.2.2.2
  refine ⟨vs, s₁, hlaid, k, _, t₂, hsched, ?_, (fun _ i x hx => by rw [hgens] at hx; simp at hx), (by rw [eh]; exact hkp), by rw [hlife], Shared.rest_eq (eo.trans hos)⟩
  rcases hcase with ⟨v, rfl, d1, d2, d3, d4, d5⟩ | ⟨e, ob, cls, rfl, d1, d2, d3, d4, d5⟩
  · exact .inl ⟨v, rfl, d1, d2, d3, fun b o y _ => d4 b o y, d5⟩
  · exact .inr ⟨e, ob, cls, rfl, d1, d2, d3, d4, fun b o y _ => d5 b o y⟩
/-- the walk that the head asks, of stacks that hold no bytearray fast -/
abbrev WalkC (q : Program) (loose : List Str) (XP : (Str → Option Value) → Heap → Prop) (YP : World → Heap → Prop) (r : RowW) (d : DefRec) (kwd : List (Str × Expr)) : Prop :=
  ∀ (w : World) (s₀ s₁ : Shared) (mg mb : Str → Option Value), Ground q loose r.records XP w s₀ mg mb s₁.heap → YP w s₁.heap → ∀ (a : Addr) (o : Obj) (pm cd doc dV kV : Value), s₁.heap.get? a = some o →
    o.data = .func { docDef d.name d.params d.body d.scope pm cd doc with defaults := dV, kwdefaults := kV } → s₁.heap.CodeRec cd d.name → Dflts mg s₁.heap d.params kwd dV kV → mg d.name = some (.ref a) → s₁.gens = #[] →
    ∀ (args : List WData) (vals : List Value) (as : List Addr), r.claim.pre args = true → WData.layableAll args = true → ReadsAllW r.records (classAt s₀.heap) s₁.heap vals args as → WellAll w.params s₁.heap vals args → (∀ a ∈ as, (a == sysModules) = false) →
      wpC (model r.prog w) callerA (PySem.call (.ref a) vals) (fun v s' => GoodWG r.claim (classAt s₀.heap) (ExcName.means s₀.heap) args s₁ (.ok (.ret v)) s')
        (fun e s' => GoodWG r.claim (classAt s₀.heap) (ExcName.means s₀.heap) args s₁ (.error e) s') s₁
theorem head_C {r : OpenRow} {q : Program} {loose : List Str} {Xt : Shared → Bool} {XP : (Str → Option Value) → Heap → Prop} {α : Type} {Yf : Shared → α} {Ya : World → α} {YP : World → Heap → Prop} {d : DefRec} {kwd : List (Str × Expr)} {N : Nat}
    (left : LeftO r.prog q loose Xt Yf Ya N) (hY : ∀ w s, Yf s = Ya w → YP w s.heap) (hYk : ∀ w h h', YP w h → (∀ b o, h.get? b = some o → h'.get? b = some o) → YP w h')
    (hX : ∀ s, Xt s = true → XP (s.heap.nsMap mainGlobals) s.heap) (hXk : ∀ mg h h', XP mg h → (∀ b o, h.get? b = some o → h'.get? b = some o) → XP mg h')
    (hdef : defOf q r.name = some (d, kwd)) (hp : r.prog.theDef r.name = some (d.params, d.body, d.scope)) (hk : kwWritten? d.params.kwonlyargs d.params.kw_defaults = some kwd) (hRf : ∀ s, Xt s = true → RecFacts r.records s.heap) (hwr : (!r.writes || r.records.isEmpty) = true)
    (k1 : r.wellSaid = true) (ok : (chainsOk q && opensWell r.prog && (frees r.toRowW && r.within.isEmpty)) = true) (hb : r.prog.bare) (hw : r.toRowW.promised)
    (call : WalkC q loose XP YP r.toRowW d kwd) : r.Holds := by
  refine ⟨k1, hw, ?_⟩
  obtain ⟨ok1, ok2⟩ := Bool.and_eq_true_iff.mp ok
  obtain ⟨hch, o1⟩ := Bool.and_eq_true_iff.mp ok1
  obtain ⟨k5, k6⟩ := Bool.and_eq_true_iff.mp ok2
  obtain ⟨hsame, hu, ha, hap, hm⟩ := frees_parts k5
  refine ⟨⟨hb, o1, by show r.makers.map _ = []; rw [hm]; rfl⟩, hw.witness, fun w => ⟨(left.behind hX hch w).1, fun s' hs' => ?_⟩⟩
  obtain ⟨s₀, hf, hg0, s, hT, hz, hgens, hg, G00, y⟩ := (left.behind (XP := fun mg h => XP mg h ∧ RecFacts r.records h) (fun s hs => ⟨hX s hs, hRf s hs⟩) hch w).2 s' hs'
  have G0 : Ground q loose [] XP w s (s.heap.nsMap mainGlobals) (s.heap.nsMap builtinsNs) s.heap := ⟨G00.T, G00.B, G00.D, G00.TE, G00.TD, G00.W, G00.X.1, G00.cls, G00.has, G00.apart, G00.once, G00.K⟩
  have RF := G00.X.2
  have hgens : s.gens = #[] := Array.eq_empty_of_size_eq_zero (beq_iff_eq.mp hgens)
  refine ⟨s₀, hf, hg0, s, hT, fun n hn => ?_, RF.1, RF.2.1, ?_⟩
  · obtain rfl : n = r.name := by split at hn <;> simp_all
    exact pinned_of_view hg G0 hdef hp hk
  have G : Ground q loose r.records XP w s _ _ s.heap := RF.ground G0
  show ClaimW.CallFrom (fun vs => ⟨(callStub r.name vs).cur, .builtin "claim.caller" {}, default, []⟩) _ w _ _ _ s
  refine callFrom_C (c := r.toRowW.claim) (tree := fun vs => (callStub r.name vs).cur) hz hgens fun args hpre hlay ord hord => ?_
  obtain ⟨⟨vs, s₁⟩, hlaid⟩ := Option.isSome_iff_exists.mp (layAllW_isSome (P := w.params) (ord := ord) G.has args r.args s (pre_splitW hpre).1)
  have keeps := layAllW_keeps _ _ _ hlaid
  have hal := layAllW_rest _ _ _ hlaid
  obtain ⟨as, hrd, hin, hold⟩ := reads_layAllW hord _ _ _ hlaid hlay s₁.heap (fun _ _ e => e)
  have L : Laid r.records w s s₁ args vs as := ⟨⟨ord, hord, hlaid⟩, hrd, hin, hold, keeps, hal.1.trans hgens, hal.2.2.1⟩
  have G₁ := G.keeps hXk keeps
  obtain ⟨a, o, pm, cd, doc, dV, kV, h1, h2, h3, h4, h5⟩ := G₁.fn hdef
  have h := call w s s₁ _ _ G₁ (hYk _ _ _ (hY w s y) keeps) a o pm cd doc dV kV h2 h3 h4 h5 (defOf_name hdef ▸ h1) L.gens args vs as hpre hlay L.reads L.well (L.low G.low)
  have hi := ident_freeW hu ha hap
  have hwi : r.toRowW.claim.within = [] := List.isEmpty_iff.mp k6
  refine ⟨vs, s₁, hlaid, ?_⟩
  show wpC _ _ (nsGet mainNs r.name >>= _) _ _ s₁
  refine wpC_bindA (wpAny_nsGet G₁.T.g ?_)
  rw [h1]
  refine wpC_bind (wpC_mono h (fun v s' g => wpC_pure ⟨_, rfl, ?_⟩) fun e s' g => ?_)
  · have z := g.laid (c := r.toRowW.claim) hsame hwi hi L
    exact ⟨z.1, z.2.1, z.2.2, fun q => ⟨namesKept_of hT hg r.keeps keeps g.2.1.old, noTable hwr q⟩⟩
  · have z := g.laid (c := r.toRowW.claim) hsame hwi hi L
    exact ⟨z.1, z.2.1, z.2.2, fun q => ⟨namesKept_of hT hg r.keeps keeps g.2.1.old, noTable hwr q⟩⟩
end
section
/-- names the walk's own statement, and what stands behind the module's top: «hd.heap_1» -/
theorem walk_named {r : OpenRow} {q : Program} {loose : List Str} {Xt : Shared → Bool} {XP : (Str → Option Value) → Heap → Prop} {α : Type} {Yf : Shared → α} {Ya : World → α} {YP : World → Heap → Prop} {d : DefRec} {kwd : List (Str × Expr)} {N : Nat}
    (_ : defOf q r.name = some (d, kwd)) (_ : True) (both : ((N = N ∧ Yf = Yf ∧ Ya = Ya ∧ Xt = Xt) ∧ r.Holds) ∧ WalkC q loose XP YP r.toRowW d kwd) : r.Holds := both.1.2
theorem second {A B C : Prop} (_ : A ∧ B → C) (b : B) : B := b
section
local macro_rules | `(tactic| w_witness2) => `(tactic| trivial)
local macro_rules | `(tactic| refine $f:ident $args*) => (if f.getId == `PySem.W.holds_open then let a := args[0:8].toArray ++ #[args[13]!, args[21]!, args[22]!]; `(tactic| refine Mine.walk_named $a*) else Lean.Macro.throwUnsupported)
open_top hd for PySem.Challenge.rw_ke0006_01.row
end
end
section
theorem lt9 : ∀ k : Nat, k < 9 → k = 0 ∨ k = 1 ∨ k = 2 ∨ k = 3 ∨ k = 4 ∨ k = 5 ∨ k = 6 ∨ k = 7 ∨ k = 8 := by decide

/-- an answer of the law's two readings -/
inductive Ans where
  | int (i : Int) | bool (b : Bool) | bytes (b : Array UInt8) | typ | fin
def Ans.val : Ans → Tok → Value
  | .int i, t => .int i t
  | .bool b, _ => .bool b
  | .bytes b, t => .bytes b t
  | .typ, t => .str (Str.ofString "type") t
  | .fin, t => .str (Str.ofString "end") t

section
variable (w : World) (mean : ExcName → Option Value) (mg mb : Str → Option Value) (p : Program) (loose : List Str)

/-- what a call in a frame asks of the place where it stands -/
structure At (A₀ : Around) (base h₀ : Heap) (outer : List Env) (L : Addr) (m : Str → Option Value) (news : List (Addr × Obj)) (h : Heap) (cs : Scope) : Prop where
  below : Below A₀ base outer h₀
  fr : Fr h₀ L h m
  kin : (hd.heap_1 w.params).In h₀
  news : News h₀ L h news
  top : Top p loose mean mg mb h₀
  fn : cs.kind = .function
  kinB : (hd.heap_1 w.params).In base
  topB : Top p loose mean mg mb base

/-- a call that hands back a value of which P holds, the ledger as it was (news to news') -/
def Calls (dd uu : Nat) (f : Value) (vs : List Value) (news : List (Addr × Obj)) (Ret : (Value → Shared → Prop) → (Value → Shared → Prop) → Heap → Heap → Addr → (Str → Option Value) → List Env → Shared → Prop) : Prop :=
  ∀ (dp un : Nat) (gd : Option (List Code)) (cn : Str) (cs : Scope) (a : Addr) (ccd : Value) (cl : List (Str × Addr)) (outer : List Env) (A₀ : Around) (base h₀ : Heap) (L : Addr) (m : Str → Option Value) (s : Shared) (Q E : Value → Shared → Prop),
    Below A₀ base outer h₀ → Fr h₀ L s.heap m → (hd.heap_1 w.params).In h₀ → News h₀ L s.heap news → Top p loose mean mg mb h₀ → cs.kind = .function → 
    dp + dd < recursionLimit → un + uu < cLine →
    Ret Q E base h₀ L m (envX cn cs L a ccd cl :: outer) s →
    wpAny (model PySem.Challenge.rw_ke0006_01.row.prog w) (ktrTop dp un gd cn cs L a ccd cl outer) (call f vs) Q E s

/-- a contract, at a call -/
theorem Calls.use {w : World} {mean : ExcName → Option Value} {mg mb : Str → Option Value} {p : Program} {loose : List Str} {dd uu : Nat} {f : Value} {vs : List Value} {news : List (Addr × Obj)} {Ret : (Value → Shared → Prop) → (Value → Shared → Prop) → Heap → Heap → Addr → (Str → Option Value) → List Env → Shared → Prop}
    {dp un : Nat} {gd : Option (List Code)} {cn : Str} {cs : Scope} {a : Addr} {ccd : Value} {cl : List (Str × Addr)} {outer : List Env} {A₀ : Around} {base h₀ : Heap} {L : Addr} {m : Str → Option Value} {s : Shared} {Q E : Value → Shared → Prop}
    (c : Calls w mean mg mb p loose dd uu f vs news Ret) (kB : Below A₀ base outer h₀) (kF : Fr h₀ L s.heap m) (kX : (hd.heap_1 w.params).In h₀) (kN : News h₀ L s.heap news) (kT : Top p loose mean mg mb h₀) (kf : cs.kind = .function)
    (kd : dp + dd < recursionLimit) (ku : un + uu < cLine) (k : Ret Q E base h₀ L m (envX cn cs L a ccd cl :: outer) s) :
    wpAny (model PySem.Challenge.rw_ke0006_01.row.prog w) (ktrTop dp un gd cn cs L a ccd cl outer) (call f vs) Q E s := c _ _ _ _ _ _ _ _ _ _ _ _ _ _ _ _ _ kB kF kX kN kT kf kd ku k
/-- the same, the contract behind what the place gives -/
theorem Calls.use' {w : World} {mean : ExcName → Option Value} {mg mb : Str → Option Value} {p : Program} {loose : List Str} {dd uu : Nat} {f : Value} {vs : List Value} {news : List (Addr × Obj)} {Ret : (Value → Shared → Prop) → (Value → Shared → Prop) → Heap → Heap → Addr → (Str → Option Value) → List Env → Shared → Prop}
    {dp un : Nat} {gd : Option (List Code)} {cn : Str} {cs : Scope} {a : Addr} {ccd : Value} {cl : List (Str × Addr)} {outer : List Env} {A₀ : Around} {base h₀ : Heap} {L : Addr} {m : Str → Option Value} {s : Shared} {Q E : Value → Shared → Prop}
    (kB : Below A₀ base outer h₀) (kF : Fr h₀ L s.heap m) (kX : (hd.heap_1 w.params).In h₀) (kN : News h₀ L s.heap news) (kT : Top p loose mean mg mb h₀) (kf : cs.kind = .function)
    (kd : dp + dd < recursionLimit) (ku : un + uu < cLine) (c : Calls w mean mg mb p loose dd uu f vs news Ret) (k : Ret Q E base h₀ L m (envX cn cs L a ccd cl :: outer) s) :
    wpAny (model PySem.Challenge.rw_ke0006_01.row.prog w) (ktrTop dp un gd cn cs L a ccd cl outer) (call f vs) Q E s := c _ _ _ _ _ _ _ _ _ _ _ _ _ _ _ _ _ kB kF kX kN kT kf kd ku k
end
end
section
theorem kw1 : True := by
  w_top off
  k_with "k_room" => (ktr_room)
  k_with "k_units" => (ktr_units)
  k_with "k_all" => (assumption)
  trivial
theorem fm_nn {a m : Int} (h : 0 < m) : 0 ≤ a.fmod m := by rw [Int.fmod_eq_emod_of_nonneg _ (by omega)]; exact Int.emod_nonneg _ (by omega)
theorem fm_lt {a m : Int} (h : 0 < m) : a.fmod m < m := by rw [Int.fmod_eq_emod_of_nonneg _ (by omega)]; exact Int.emod_lt_of_pos _ h
theorem take_ok {w : World} {mean : ExcName → Option Value} {mg mb : Str → Option Value} {p : Program} {loose : List Str}
   {b l : Addr} {vs : List Value} {ns : List Int} {k : Int} {t : Tok} {c c2 : Nat} {many : Int} {tm : Tok} {rest : List (Addr × Obj)} (hn : IntsAre vs ns) (hlen : ns.length ≤ 63) (hk : 0 ≤ k) (hk2 : k < 100) (hm : 0 < many) (hbl : l ≠ b) (hr : ∀ q ∈ rest, q.1 ≠ b) :
   Calls w mean mg mb p loose 1 8 (.ref 327) [.ref b, .int many tm] ((b, listOf [.ref l, .int k t].toArray c) :: (l, listOf vs.toArray c2) :: rest)
     (fun Q _E _base h₀ L m _fr s => ∀ r t' k' t'' c' h' tk', 0 ≤ r → r < many → 0 ≤ k' → k' ≤ k + 1 → Fr h₀ L h' m → News h₀ L h' ((b, listOf [.ref l, .int k' t''].toArray c') :: (l, listOf vs.toArray c2) :: rest) → Q (.int r t') { s with heap := h', toks := tk' }) := by
  unfold Calls
  k_fill
  intro dp un gd cn cs a ccd cl outer A₀ base h₀ L m s Q E B F X N T hf hd hu hret
  refine wpAny_call ?_
  k_dflt cell_enter
  k_steps
  all_goals first
    | exact hret _ _ k _ _ _ _ (Int.le_refl 0) hm (by omega) (by omega) (by assumption) (by assumption)
    | exact hret _ _ (k + 1) _ _ _ _ (fm_nn hm) (fm_lt hm) (by omega) (by omega) (by assumption) (by assumption)
theorem take_n {w : World} {mean : ExcName → Option Value} {mg mb : Str → Option Value} {p : Program} {loose : List Str}
   {b l : Addr} {vs : List Value} {ns : List Int} {k n : Int} {t : Tok} {c c2 : Nat} {many : Int} {tm : Tok} {rest : List (Addr × Obj)} (hn : IntsAre vs ns) (hlen : ns.length ≤ 63) (hk : 0 ≤ k) (hkn : k ≤ n) (hk2 : n < 100) (hm : 0 < many) (hbl : l ≠ b) (hr : ∀ q ∈ rest, q.1 ≠ b) :
   Calls w mean mg mb p loose 1 8 (.ref 327) [.ref b, .int many tm] ((b, listOf [.ref l, .int k t].toArray c) :: (l, listOf vs.toArray c2) :: rest)
     (fun Q _E _base h₀ L m _fr s => ∀ r t' k' t'' c' h' tk', 0 ≤ r → r < many → 0 ≤ k' → k' ≤ n + 1 → Fr h₀ L h' m → News h₀ L h' ((b, listOf [.ref l, .int k' t''].toArray c') :: (l, listOf vs.toArray c2) :: rest) → Q (.int r t') { s with heap := h', toks := tk' }) := by
  intro dp un gd cn cs a ccd cl outer A₀ base h₀ L m s Q E B F X N T hf hd hu hret
  exact take_ok hn hlen hk (by omega) hm hbl hr dp un gd cn cs a ccd cl outer A₀ base h₀ L m s Q E B F X N T hf hd hu (fun r t' k' t'' c' h' tk' a1 a2 a3 a4 => hret r t' k' t'' c' h' tk' a1 a2 a3 (by omega))
end
theorem kw2 : True := by
  w_top off
  k_with_none
  k_with "k_ne" => ((try dsimp only); with_reducible first | exact Nat.ne_of_lt (by k_extra "mine lt") | exact Nat.ne_of_gt (by k_extra "mine lt") | fail)
  k_with "mine lt" => (first | assumption | (refine Nat.lt_trans (by assumption) ?_; k_extra "mine lt"))
  trivial
section
theorem room_le {a b c lim : Nat} (h : a + b < lim) (hc : c ≤ b) : a + c < lim := Nat.lt_of_le_of_lt (Nat.add_le_add_left hc _) h
theorem room_le2 {a b c d lim : Nat} (h : a + b < lim) (hc : c + d ≤ b) : a + c + d < lim := by rw [Nat.add_assoc]; exact room_le h hc
theorem room_le3 {a b c d e lim : Nat} (h : a + b < lim) (hc : c + (d + e) ≤ b) : a + c + d + e < lim := by rw [Nat.add_assoc, Nat.add_assoc]; exact room_le h hc
theorem room_le4 {a b c d e f lim : Nat} (h : a + b < lim) (hc : c + (d + (e + f)) ≤ b) : a + c + d + e + f < lim := by rw [Nat.add_assoc, Nat.add_assoc, Nat.add_assoc]; exact room_le h hc
theorem units_under_make (A : Around) (a : Addr) (r : List Value) (kw : List (Str × Value)) : (A.under (.builtin "type.__call__" ⟨.ref a :: r, kw⟩)).units = A.units + 1 := rfl
/-- the law's own def, taken out of the program -/
def lawDef : Option Stmt := PySem.Challenge.pw_ke0006_01.main.body.getLast?
def lawBody : List Stmt := match lawDef with | some (.FunctionDef _ _ body _ _ _ _ _ _ _) => body | _ => []
def lawScope : Scope := match lawDef with | some (.FunctionDef _ _ _ _ _ _ sc _ _ _) => sc | _ => { kind := .function, names := [], isGenerator := false, isCoroutine := false }
section
variable {M : Model} {A : Around} {E : Value → Shared → Prop} {s : Shared} {env : Env}
theorem execs_app : ∀ (l₁ : List Stmt) {l₂ : List Stmt} {s : Shared} {Q : Flow → Shared → Prop}, wpAny M A (execs l₁ env) (fun f s' => match f with | .next => wpAny M A (execs l₂ env) Q E s' | f => Q f s') E s → wpAny M A (execs (l₁ ++ l₂) env) Q E s := by
  intro l₁ l₂ s Q h Γ p hΓ
  have key : ∀ (l : List Stmt) (p : _) (s : Shared), Sem.wp M Γ (execs l env) (fun f _ s' => match f with | .next => wpAny M A (execs l₂ env) Q E s' | f => Q f s') (fun e _ s' => E e s') p s → Sem.wp M Γ (execs (l ++ l₂) env) (fun f _ s' => Q f s') (fun e _ s' => E e s') p s := by
    intro l
    induction l with
    | nil =>
      intro p s h
      exact (show wpAny M A (execs l₂ env) Q E s from h) Γ p hΓ
    | cons st r ih =>
      intro p s h
      rw [execs_cons, Sem.wp_bind'] at h
      rw [List.cons_append, execs_cons, Sem.wp_bind']
      refine Sem.wp_mono M Γ _ (fun f p' s' h' => ?_) (fun _ _ _ h' => h') _ _ h
      cases f
      · exact ih _ _ h'
      all_goals exact h'
  exact key l₁ p s (h Γ p hΓ)
end
def lawA : List Stmt := match lawBody with | a :: b :: c :: d :: e :: f :: _ => [a, b, c, d, e, f] | _ => []
def lawB : List Stmt := match lawBody with | _ :: _ :: _ :: _ :: _ :: _ :: g :: h :: _ => [g, h] | _ => []
def octBody : List Stmt := match lawBody with | _ :: _ :: _ :: _ :: _ :: _ :: _ :: .For _ _ b _ _ :: _ => b | _ => []
def lawC : List Stmt := match lawBody with | _ :: _ :: _ :: _ :: _ :: _ :: _ :: _ :: a :: _ => [a] | _ => []
def lawD : List Stmt := match lawBody with | _ :: _ :: _ :: _ :: _ :: _ :: _ :: _ :: _ :: a :: _ => [a] | _ => []
def lawD2 : List Stmt := match lawBody with | _ :: _ :: _ :: _ :: _ :: _ :: _ :: _ :: _ :: _ :: b :: _ => [b] | _ => []
def lawE : List Stmt := match lawBody with | _ :: _ :: _ :: _ :: _ :: _ :: _ :: _ :: _ :: _ :: _ :: a :: b :: c :: _ => [a, b, c] | _ => []
def lawE1 : List Stmt := match lawBody with | _ :: _ :: _ :: _ :: _ :: _ :: _ :: _ :: _ :: _ :: _ :: a :: _ => [a] | _ => []
def lawE2 : List Stmt := match lawBody with | _ :: _ :: _ :: _ :: _ :: _ :: _ :: _ :: _ :: _ :: _ :: _ :: b :: _ => [b] | _ => []
def lawE3 : List Stmt := match lawBody with | _ :: _ :: _ :: _ :: _ :: _ :: _ :: _ :: _ :: _ :: _ :: _ :: _ :: c :: _ => [c] | _ => []
def lawF : List Stmt := match lawBody with | _ :: _ :: _ :: _ :: _ :: _ :: _ :: _ :: _ :: _ :: _ :: _ :: _ :: _ :: a :: _ => [a] | _ => []
def lawG : List Stmt := match lawBody with | _ :: _ :: _ :: _ :: _ :: _ :: _ :: _ :: _ :: _ :: _ :: _ :: _ :: _ :: _ :: a :: _ => [a] | _ => []
def rowExprs : List Expr := match lawG with | .Assign _ (.List es _) _ :: _ => es | _ => []
def lamArgs (i : Nat) : Arguments := match rowExprs.drop i with | .Tuple (.Call _ (.Lambda a _ _ _ :: _) _ _ :: _) _ _ :: _ => a | _ => default
def lamBody (i : Nat) : Expr := match rowExprs.drop i with | .Tuple (.Call _ (.Lambda _ b _ _ :: _) _ _ :: _) _ _ :: _ => b | _ => default
def lamScope (i : Nat) : Scope := match rowExprs.drop i with | .Tuple (.Call _ (.Lambda _ _ sc _ :: _) _ _ :: _) _ _ :: _ => sc | _ => default
def lamPos (i : Nat) : Pos := match rowExprs.drop i with | .Tuple (.Call _ (.Lambda _ _ _ p :: _) _ _ :: _) _ _ :: _ => p | _ => default
def rowE (i : Nat) : Expr := match rowExprs.drop i with | e :: _ => e | _ => default
def lawH : List Stmt := match lawBody with | _ :: _ :: _ :: _ :: _ :: _ :: _ :: _ :: _ :: _ :: _ :: _ :: _ :: _ :: _ :: _ :: a :: _ => [a] | _ => []
def lawI : List Stmt := match lawBody with | _ :: _ :: _ :: _ :: _ :: _ :: _ :: _ :: _ :: _ :: _ :: _ :: _ :: _ :: _ :: _ :: _ :: a :: _ => [a] | _ => []
example : lawBody.length = 18 := by decide +kernel
end
section
theorem kw3 : True := by
  w_top off
  k_with "mine mem" => (with_reducible first | assumption | exact List.mem_cons_self | (refine List.mem_cons_of_mem _ ?_; k_extra "mine mem"))
  k_with "k_mem" => (k_extra "mine mem")
  k_with "k_room" => (ktr_room)
  k_with "k_units" => (ktr_units)
  trivial
theorem all_ne_succ {news : List (Addr × Obj)} {L : Addr} (h : ∀ p ∈ news, p.1 < L) : ∀ p ∈ news, p.1 ≠ L + 1 := fun p hp => Nat.ne_of_lt (Nat.lt_succ_of_lt (h p hp))
theorem kw4 : True := by
  w_top off
  k_with "k_all" => (exact all_ne_succ (by assumption))
  k_with "mine enterC" => (refine' code_defC ?zzk1 ?zzk2 ?zzk3 ?zzk4 ?zzk5 ?zzkA ?zzkF ?zzkK ?zzk6 ?zzk7 ?zzk8 ?zzk9 ?zzkB ?zzkD ?_ ?zzc2 ?zzc3 ?zzc4; (case zzkA => exact rfl); (case zzkF => exact rfl); (case zzkK => assumption); (case zzk1 => k_asm); (case zzk2 => k_asm); (case zzk3 => k_asm); (case zzk4 => k_asm); (case zzk5 => k_asm); (case zzk6 => k_is); (case zzk7 => k_is); (case zzk8 => ktr_room); (case zzk9 => exact BindsTo.of_eq rfl); (case zzkB => exact rfl); (case zzkD => decide +kernel); (case zzc2 => exact rfl); (case zzc3 => exact rfl); (case zzc4 => exact rfl); k_whole; intro g' L' h' tk' cells' FG' F' N' Y' B' X' T' l1; k_cells Y'; (try simp only [List.cons_append, List.nil_append] at N'); (try dsimp only); (try k_lift B'); (try k_fold))
  trivial
theorem p256_cases {k : Int} (h0 : 0 ≤ k) (h1 : k < 0 + ((4 - 0 : Int).toNat : Int)) : k = 0 ∨ k = 1 ∨ k = 2 ∨ k = 3 := by omega
theorem p256_ne {k : Int} (h0 : 0 ≤ k) (h1 : k < 0 + ((4 - 0 : Int).toNat : Int)) : (256 : Int) ^ k.toNat ≠ 0 := by
  rcases p256_cases h0 h1 with rfl | rfl | rfl | rfl <;> decide
theorem p256_py {k : Int} (h0 : 0 ≤ k) (h1 : k < 0 + ((4 - 0 : Int).toNat : Int)) : ((256 : Int) ^ k.toNat).natAbs < 1073741824 := by
  rcases p256_cases h0 h1 with rfl | rfl | rfl | rfl <;> decide
theorem fmod_all {f : Int → Int} {ns : List Int} (l : List Int) (e : ns = l.map fun k => (f k).fmod 256) : ∀ n ∈ ns, 0 ≤ n ∧ n < 256 := by
  subst e
  intro n hn
  obtain ⟨k, _, rfl⟩ := List.mem_map.mp hn
  rw [Int.fmod_eq_emod_of_nonneg _ (by decide)]
  exact ⟨Int.emod_nonneg _ (by decide), Int.emod_lt_of_pos _ (by decide)⟩
theorem off1_all {D : Addr} : ∀ {l : List (Addr × Obj)}, LCg.Off1 D l → ∀ p ∈ l, p.1 ≠ D
  | [], _, _, h => nomatch h
  | q :: r, x, p, hp => by
    rcases List.mem_cons.mp hp with rfl | hp
    · exact x.1
    · exact off1_all x.2 p hp
theorem off1_two {D : Addr} {l : List (Addr × Obj)} {P R : Prop} (h : P ∧ R ∧ LCg.Off1 D l) : ∀ p ∈ l, p.1 ≠ D := off1_all h.2.2
theorem lt_after {news : List (Addr × Obj)} {L l D : Addr} (h : ∀ p ∈ news, p.1 < L) (h2 : L < D) : ∀ p ∈ news, p.1 < D := fun p hp => Nat.lt_trans (h p hp) h2
theorem kw5 : True := by
  w_top off
  k_with "m binaryOp FloorDiv int int" => (k_here; with_reducible (refine floordiv_int ?zzkbe ?_ (Or.inl (PyProof.noPylong_small ?zzkbp))); (case zzkbe => exact p256_ne (by assumption) (by assumption)); (case zzkbp => exact p256_py (by assumption) (by assumption)))
  trivial
theorem word_ok {w : World} {mean : ExcName → Option Value} {mg mb : Str → Option Value} {p : Program} {loose : List Str} {n : Int} {t : Tok} {news : List (Addr × Obj)} :
   Calls w mean mg mb p loose 2 40 (.ref 332) [.int n t] news
     (fun Q _E _base h₀ L m _fr s => ∀ h' tk' D ws c ns, Fr h₀ L h' m → News h₀ L h' ((D, listOf ws.toArray c) :: news) → IntsAre ws ns → ns.length = 4 → (∀ n ∈ ns, 0 ≤ n ∧ n < 256) → (∀ q ∈ news, q.1 ≠ D) → Q (.ref D) { s with heap := h', toks := tk' }) := by
  unfold Calls
  k_fill
  intro dp un gd cn cs a ccd cl outer A₀ base h₀ L m s Q E B F X N T hf hd hu hret
  refine wpAny_call ?_
  k_dflt k_extra "mine enterC"
  k_steps
  all_goals (first | (refine hret _ _ _ _ _ _ (by assumption) (cb_drop (by assumption) (by kcj_in)) (by assumption) (by rw [List.length_map]; rfl) (fmod_all _ rfl) (off1_two (by assumption))))
end
theorem kw6 : True := by
  w_top off
  k_with_none
  k_with "k_ne" => ((try dsimp only); with_reducible first | exact Nat.ne_of_lt (by k_extra "mine lt") | exact Nat.ne_of_gt (by k_extra "mine lt") | fail)
  k_with "mine lt" => (first | assumption | (refine Nat.lt_trans (by assumption) ?_; k_extra "mine lt"))
  trivial
section
def Octs (ws : List Value) (os : List Int) : Prop := IntsAre ws os ∧ ∀ n ∈ os, 0 ≤ n ∧ n < 256
section
variable {prog : Program} {w : World} {A : Around} {E : Value → Shared → Prop} {s : Shared} {env : Env} {h₀ : Heap} {x : Str} {body : List Stmt} {Q : Flow → Shared → Prop} {y : Str}
theorem iter_oct {l lo : Addr} {vs ws : List Value} {ns : List Int} {c co : Nat} {m : Str → Option Value} {news : List (Addr × Obj)}
    (hxy : y ≠ x) (hh : A.handled = none) (hl : (l, listOf vs.toArray c) ∈ news) (hi : IntsAre vs ns) (hw : Octs ws []) (hm : m y = some (.ref lo)) (F : Fr h₀ env.locals s.heap m) (N : News h₀ env.locals s.heap ((lo, listOf ws.toArray co) :: news))
    (turn : ∀ (n : Int) (t : Tok) (i : Nat) (m₁ : Str → Option Value) (lo : Addr) (ws : List Value) (co : Nat) (os : List Int) (own : List (Addr × Obj)) (h : Heap) (tk : Nat), i < ns.length → Octs ws os → os.length = 4 * i → Fr h₀ env.locals h (fun z => if z = x then some (.int n t) else if z = y then some (.ref lo) else m₁ z) → News h₀ env.locals h ((lo, listOf ws.toArray co) :: (news ++ own)) →
      wpAny (model prog w) A (execs body env) (fun f s₂ => f = .next ∧ ∃ h' tk' m' lo' ws' co' os', s₂ = { s with heap := h', toks := tk' } ∧ Fr h₀ env.locals h' m' ∧ m' y = some (.ref lo') ∧ (∀ z, z ≠ x → z ≠ y → m' z = m₁ z) ∧ News h₀ env.locals h' ((lo', listOf ws'.toArray co') :: (news ++ own)) ∧ Octs ws' os' ∧ os'.length = os.length + 4) E { s with heap := h, toks := tk })
    (done : ∀ (m₁ : Str → Option Value) (lo : Addr) (ws : List Value) (co : Nat) (os : List Int) (h : Heap) (tk : Nat), Octs ws os → os.length = 4 * ns.length → Fr h₀ env.locals h m₁ → m₁ y = some (.ref lo) → (∀ z, z ≠ x → z ≠ y → m₁ z = m z) → News h₀ env.locals h ((lo, listOf ws.toArray co) :: news) → Q .next { s with heap := h, toks := tk }) :
    wpAny (model prog w) A (pyIter (.ref l)) (fun it s₂ => LoopAtV prog w A h₀ env x body Q E it s₂) E s := by
  have Nl := N _ (List.mem_cons_of_mem _ hl)
  have hls : s.heap.IsList l vs.toArray := ⟨_, Nl.1, rfl, _, rfl⟩
  have hlt : l < s.heap.objs.size := Heap.lt_size Nl.1
  have hne : l ≠ s.heap.objs.size := Nat.ne_of_lt hlt
  refine wpAny_pyIter_list hls ?_
  have W := Walks.list (prog := prog) (w := w) hh s.heap.objs.size l hne vs.toArray
  have hlen : vs.toArray.size = ns.length := by simp [hi.length]
  rw [hlen] at W
  let J' : Nat → (Str → Option Value) → List (Addr × Obj) → Prop := fun i m₁ news₁ => ∃ lo ws co os, m₁ y = some (.ref lo) ∧ (∀ z, z ≠ x → z ≠ y → m₁ z = m z) ∧ Octs ws os ∧ os.length = 4 * i ∧ news₁ = (lo, listOf ws.toArray co) :: news
  refine ⟨_, _, _, ns.length, _, _, m, (lo, listOf ws.toArray co) :: news, J', rfl, W, ?_, ?_, ?_, ⟨⟨_, Heap.get?_push_size _ rfl, rfl, rfl⟩, hls.at fun o e => Heap.get?_push_of_some _ e⟩, F.push _, (fun p hp => ⟨Heap.get?_push_of_some _ (N p hp).1, (N p hp).2⟩), ⟨lo, ws, co, [], hm, fun _ _ _ => rfl, hw, rfl, rfl⟩, ?_, ?_⟩
  · intro hmm
    rcases List.mem_cons.mp hmm with e | hmm
    · exact absurd F.ns.lt (e ▸ Nat.lt_irrefl _)
    · exact Nl.2.1 (List.mem_singleton.mp hmm).symm
  · intro b hb
    rw [List.mem_singleton.mp hb]
    exact next_is_new F
  · intro p hp hI
    exact absurd (Heap.lt_size (N p hp).1) ((List.mem_singleton.mp hI) ▸ Nat.lt_irrefl _)
  · rintro i v m₁ news₁ s₁ own ⟨hh', tk', rfl⟩ hin hP ⟨lo₁, ws₁, co₁, os₁, hm₁, hk₁, hw₁, hlen₁, rfl⟩ hoff hown hownAt hfp hst F₁ N₁
    have hlt' : i < ns.length := hin
    obtain ⟨t, hx⟩ := hi.get i ns[i] (by simp [hlt'])
    have hv : v = .int ns[i] t := by
      have hP' : vs[i]? = some v := by simpa using hP
      rw [hx] at hP'; exact (Option.some.inj hP').symm
    subst hv
    have e : (fun z => if z = x then some (Value.int ns[i] t) else m₁ z) = fun z => if z = x then some (Value.int ns[i] t) else if z = y then some (Value.ref lo₁) else m₁ z := by
      funext z
      by_cases h1 : z = x
      · simp [h1]
      · by_cases h2 : z = y
        · subst h2; simp [h1, hm₁]
        · simp [h1, h2]
    rw [e] at F₁
    have N₂ : News h₀ env.locals hh' ((lo₁, listOf ws₁.toArray co₁) :: (news ++ own)) := fun p hp => N₁ p (by
      rcases List.mem_cons.mp hp with rfl | hp
      · exact List.mem_append_right _ (.head _)
      · rcases List.mem_append.mp hp with hp | hp
        · exact List.mem_append_right _ (.tail _ hp)
        · exact List.mem_append_left _ hp)
    refine wpAny_mono (turn ns[i] t i m₁ lo₁ ws₁ co₁ os₁ own hh' tk' hlt' hw₁ hlen₁ F₁ N₂) (fun f s₂ p => ?_) fun _ _ e => e
    obtain ⟨rfl, h', tk₂, m', lo', ws', co', os', rfl, F', hm', hk', N', hw', hl'⟩ := p
    refine .next ⟨rfl, h', tk₂, m', (lo', listOf ws'.toArray co') :: news, rfl, F', fun p hp => N' p ?_, ?_, lo', ws', co', os', hm', fun z h1 h2 => (hk' z h1 h2).trans (hk₁ z h1 h2), hw', by omega, rfl⟩
    · rcases List.mem_append.mp hp with hp | hp
      · exact .tail _ (List.mem_append_right _ hp)
      · rcases List.mem_cons.mp hp with rfl | hp
        · exact .head _
        · exact .tail _ (List.mem_append_left _ hp)
    · intro p hp
      rcases List.mem_cons.mp hp with rfl | hp
      · intro hI
        have hI' : lo' = s.heap.objs.size := List.mem_singleton.mp hI
        obtain ⟨⟨oI, hoI, hcI, _⟩, _⟩ := hst
        have hmem := hfp s.heap.objs.size (by simp) (next_is_new F) oI hoI
        have h1 := (N' _ (.tail _ (List.mem_append_right _ hmem))).1
        have h2 := (N' _ (.head _)).1
        dsimp only at h1 h2
        rw [hI'] at h2
        rw [h1] at h2
        have := Option.some.inj h2
        rw [this] at hcI
        injection hcI with hcI
        exact absurd hcI (by decide)
      · exact hoff p (.tail _ hp)
  · rintro h' tk m' news' F' N' _ ⟨lo₁, ws₁, co₁, os₁, hm₁, hk₁, hw₁, hlen₁, rfl⟩
    exact done m' lo₁ ws₁ co₁ os₁ h' tk hw₁ hlen₁ F' hm₁ hk₁ N'
end
end
section
abbrev Rets (v : Tok → Value) (Q : Value → Shared → Prop) (h₀ : Heap) (L : Addr) (m : Str → Option Value) (news : List (Addr × Obj)) (s : Shared) : Prop :=
  ∀ (t : Tok) (h' : Heap) (tk' : Nat), Fr h₀ L h' m → News h₀ L h' news → Q (v t) { s with heap := h', toks := tk' }
abbrev Raises (X : String) (E : Value → Shared → Prop) (base h₀ : Heap) (L : Addr) (m : Str → Option Value) (fr : List Env) (news : List (Addr × Obj)) (s : Shared) : Prop :=
  ∀ (e : Addr) (g h' : Heap) (tk' : Nat), Fr h₀ L g m → g.UpToSlots h' → RaisedSN base g fr e (.type X) news h' → E (.ref e) { s with heap := h', toks := tk' }

def SaysRet (news : List (Addr × Obj)) (a : Ans) (Q E : Value → Shared → Prop) (base h₀ : Heap) (L : Addr) (m : Str → Option Value) (fr : List Env) (s : Shared) : Prop :=
  match a with
  | .int i => Rets (fun t => .int i t) Q h₀ L m news s
  | .bool b => Rets (fun _ => .bool b) Q h₀ L m news s
  | .bytes b => Rets (fun t => .bytes b t) Q h₀ L m news s
  | .typ => Raises "TypeError" E base h₀ L m fr news s
  | .fin => Raises "struct.error" E base h₀ L m fr news s

theorem kts_memX {env : Env} {L b : Addr} {outer : List Env} (hf : env.frame = some L) (hm : b ∈ (env :: outer).filterMap (·.frame)) : b = L ∨ b ∈ outer.filterMap (·.frame) := by
  obtain ⟨env', he, hf'⟩ := List.mem_filterMap.mp hm
  rcases List.mem_cons.mp he with rfl | he
  · exact .inl (Option.some.inj (hf.symm.trans hf')).symm
  · exact .inr (List.mem_filterMap.mpr ⟨env', he, hf'⟩)

theorem leave_onX {M : Model} {A : Around} {E : Value → Shared → Prop} {s' : Shared} {base g g₂ : Heap} {outer : List Env} {L e : Addr} {m : Str → Option Value} {env : Env} {cls : Value} {Q : Unit → Shared → Prop} {news : List (Addr × Obj)}
    (hf : env.frame = some L) (K : Below A base outer g) (F : Fr g L g₂ m) (R : RaisedSN base g₂ (env :: outer) e cls news s'.heap) (hsm : g₂.UpToSlots s'.heap)
    (hQ : ∀ h', RaisedSN base g outer e cls news h' → g.UpToSlots h' → Q () { s' with heap := h' }) :
    wpAny M (A.deeper env) (leaving env (.ref e)) Q E s' := by
  obtain ⟨B, a0, hB, hBG, hl, hfl⟩ := R
  exact wpAny_leaves_onW (Around.frames_deeper K.stack) hf hfl fun h' x1 x2 =>
    hQ h' ⟨B, a0, hB, fun b o q nm => hBG b o (F.keep b o q) (fun hm => by
      rcases kts_memX hf hm with z | z
      · rw [z, kts_self F] at q
        cases q
      · exact nm z), fun q hq => ⟨(hl q hq).1, kts_none F.keep (hl q hq).2.1, (hl q hq).2.2⟩, x1⟩ ((Heap.UpToSlots.of_keeps F.keep).trans (hsm.trans x2))

theorem raisedS_weak {base G : Heap} {l : List Env} {e t : Addr} {cls : Value} {vs : List Value} {news news' : List (Addr × Obj)} {h : Heap} (R : RaisedS base G l e cls t vs news h) (hs : ∀ q ∈ news', q ∈ news) : RaisedSN base G l e cls news' h := by
  obtain ⟨⟨B, hB, hBG, hl, hfl, _⟩, _⟩ := R
  exact ⟨B, _, hB, hBG, fun q hq => hl q (hs q hq), hfl⟩
theorem raisedSN_weak {base G : Heap} {l : List Env} {e : Addr} {cls : Value} {news news' : List (Addr × Obj)} {h : Heap} (R : RaisedSN base G l e cls news h) (hs : ∀ q ∈ news', q ∈ news) : RaisedSN base G l e cls news' h := by
  obtain ⟨B, a0, hB, hBG, hl, hfl⟩ := R
  exact ⟨B, a0, hB, hBG, fun q hq => hl q (hs q hq), hfl⟩

/-- a class of the flags -/
structure Flag (K : Frag) (C : Addr) (lo hi : Value) (py pk : Value) (nm : Str) : Prop where
  ty : typeIn K (.ref C) = some (.type "type")
  rd : readsIn K C (.type "type") = true
  mn : findCls K (.ref C) (.type "type") (Str.ofString "min_val") = some (.val lo)
  mx : findCls K (.ref C) (.type "type") (Str.ofString "max_val") = some (.val hi)
  pyt : findIn K (.ref C) (Str.ofString "py_type") = some (some py)
  pym : findIn K (.type "type") (Str.ofString "py_type") = some none
  pkt : findCls K (.ref C) (.type "type") (Str.ofString "packer_type") = some (.val pk)
  nam : ∃ t, findCls K (.ref C) (.type "type") (Str.ofString "name") = some (.val (.str nm t))

theorem flag_bool (w : World) : Flag (hd.heap_1 w.params) 61 (.bool false) (.bool true) (.type "bool") (.ref 43) (Str.ofString "bool") := by
  suffices h : PySem.Challenge.rw_ke0006_01 = PySem.Challenge.rw_ke0006_01 → Flag (hd.heap_1 w.params) 61 (.bool false) (.bool true) (.type "bool") (.ref 43) (Str.ofString "bool") from h rfl
  k_fill
  intro _
  exact ⟨by k_is, by k_is, by k_is, by k_is, by k_is, by k_is, by k_is, ⟨_, by k_is⟩⟩
end
section
theorem alias_tree {id id' : String} {b : Builtin} (h1 : entriesT.find (code id) = none) (h2 : id.cutAt '#' = [id])
    (h3 : Manifest.canonical (String.map (fun c => if (c.isAlphanum || c == '_' || c == '.') = true then c else '_') id) ++ "" = id') (h4 : entriesT.find (code id') = some b) : entryFor table id = some b :=
  entryFor_alias (by rw [fastTable_eq_tree]; exact h1) h2 h3 (by rw [fastTable_eq_tree]; exact h4)
namespace FF
theorem slot_uf : Slot "_struct.Struct" "unpack_from" "_struct.Struct.unpack_from" :=
  .of (owner := "_struct.Struct") (n := "unpack_from") (by rw [typeLookup_type, builtinLookup_eq_fast]; kernel_rfl) (by decide +kernel) (by decide +kernel) (by decide +kernel)
    (by first | exact .inl (by decide +kernel) | exact .inr (by decide +kernel)) (by rw [isSubtype_type]; kernel_rfl)
theorem entry_uf : entryFor table "_struct.Struct.unpack_from" = some Builtin.«_struct.Struct.unpack_from» := entryFor_of_tree (by kernel_rfl)
theorem args_uf (a b c : Value) : argsOk "_struct.Struct.unpack_from" ⟨[a, b, c], []⟩ := by unfold argsOk; rw [PySem.W.S.signatureZ_eq]; kernel_rfl
theorem bind_uf (a b : Value) : Builtin.Bytes.bindOptional "_struct.Struct.unpack_from" "unpack_from" ["buffer", "offset"] [a, b] [] = pure [some a, some b] := by kernel_rfl
theorem buf_ba : typeLookup (.type "bytearray") "__buffer__" = pure (some (.builtin "bytearray.__buffer__")) := by rw [typeLookup_type, builtinLookup_eq_fast]; kernel_rfl
theorem rel_ba : typeLookup (.type "bytearray") "__release_buffer__" = pure (some (.builtin "bytearray.__release_buffer__")) := by rw [typeLookup_type, builtinLookup_eq_fast]; kernel_rfl
theorem sub_ba : isSubtype (.type "bytearray") (.type "bytearray") = pure true := by rw [isSubtype_type]; kernel_rfl
end FF
abbrev baObj (b : Array UInt8) : Obj := { cls := .type "bytearray", data := .bytearray b }
abbrev packObj (f : Array UInt8) (t : Tok) : Obj := { cls := .type "_struct.Struct", data := .fields #[.bytes f t] }

section
variable {M : Model} {h : Heap} {d : Addr} {b : Array UInt8}
theorem looks_baType (hd : h.get? d = some (baObj b)) : Looks M h (typeOf (.ref d)) (.type "bytearray") := (Looks.ld hd).andThen .now
theorem looks_baSpecial {name : Str} {r : Option Value} (hd : h.get? d = some (baObj b)) (e : typeLookup (.type "bytearray") name = pure r) : Looks M h (specialOf (.ref d) name) r := (looks_baType hd).andThen (Looks.of_pure e)
theorem looks_payload (hd : h.get? d = some (baObj b)) : Looks M h (Builtin.Bytes.payload (.ref d)) b := by
  unfold Builtin.Bytes.payload Builtin.Bytes.payload?
  exact ((Looks.ld (part := none) hd).andThen .now).andThen .now
theorem looks_buffer {id : String} {full : Bool} (hd : h.get? d = some (baObj b)) : Looks M h (Builtin.Bytes.buffer? id (.ref d) full) (some b) := by
  intro A Q E s k q
  obtain ⟨h', g, dr, tk, os⟩ := s
  have hd' := k _ _ hd
  have L1 := looks_baSpecial (M := M) hd' FF.buf_ba
  have L2 := looks_baSpecial (M := M) hd' FF.rel_ba
  have L3 : Looks M h' (isInstance (.ref d) (.type "bytearray")) true := (looks_baType hd').andThen (Looks.of_pure FF.sub_ba)
  have L4 := looks_payload (M := M) hd'
  unfold Builtin.Bytes.buffer? Builtin.Bytes.slotIsOwn Builtin.Bytes.ownRelease Builtin.Bytes.slotIsOwn
  have e1 : "bytearray.__buffer__".endsWith ("." ++ "__buffer__") = true := by decide +kernel
  have e2 : "bytearray.__buffer__".dropRight ("__buffer__".length + 1) = "bytearray" := by decide +kernel
  have e3 : "bytearray.__release_buffer__".endsWith ("." ++ "__release_buffer__") = true := by decide +kernel
  have e4 : "bytearray.__release_buffer__".dropRight ("__release_buffer__".length + 1) = "bytearray" := by decide +kernel
  repeat (first | simp only [e1, e2, e3, e4, Bool.not_true, Bool.false_eq_true, if_false] | lk)
  exact q
end
end
section
theorem structError_no_first : ((Manifest.find? "struct.error").elim false fun t => t.mro.contains "StopIteration" || t.mro.contains "SystemExit") = false := by
  first | decide +kernel | (rw [find?_eq_fast]; kernel_rfl)
theorem ownMembersOf_struct (args : List Value) : ownMembersOf (.type "struct.error") args = #[] := by kernel_rfl
theorem raise_struct {α : Type} {M : Model} {A : Around} {E : Value → Shared → Prop} {s : Shared} {msg : String} {Q : α → Shared → Prop} (hh : A.handled = none)
    (h : ∀ h' tk e, Heap.NewExc s.heap h' e "struct.error" → E (.ref e) { s with heap := h', toks := tk }) (hm : (Str.ofString msg).length ≤ sizeLine) :
    wpAny M A (Builtin.Struct.structError msg : Sem α) Q E s := by
  unfold Builtin.Struct.structError raiseErrorMade
  refine wpAny_bind (wpAny_mkStr (wpAny_bind ?_) hm)
  unfold newExc newTuple
  refine wpAny_bind (wpAny_newObj_type ?_)
  refine wpAny_bind (m := firstArgMember _ _) (wpAny_of_eq (a := Value.none) (by simp only [firstArgMember, structError_no_first]; rfl) ?_)
  rw [ownMembersOf_struct]
  refine wpAny_newObj_type ?_
  exact wpAny_raiseNew_none hh (h _ _ _ ⟨fun b o hb => Heap.get?_push_of_some _ (Heap.get?_push_of_some _ hb), Heap.get?_none_of_le (by simp), _, .ref s.heap.objs.size, Heap.get?_push_size _ rfl, rfl, by simp⟩)

abbrev oneTup (v : Value) : Obj := { cls := .type "tuple", data := .seq #[v] }
structure Packs (fmt : Array UInt8) (w : Nat) (v : Nat → Tok → Value) : Prop where
  run : ∃ F : Builtin.Struct.Format, Builtin.Struct.parse fmt = pure F ∧ F.size = w ∧ ∀ (M : Model) (A : Around) (id : String) (b : Array UInt8) (start : Nat) (Q : Value → Shared → Prop) (E : Value → Shared → Prop) (s : Shared),
    (∀ tk t, Q (.ref s.heap.objs.size) { s with heap := s.heap.push (oneTup (v (Builtin.Memoryview.littleEndian (b.extract start (start + w))) t)), toks := tk }) → wpAny M A (Builtin.Struct.unpacked id F b start) Q E s

theorem packs_bool : Packs #[63] 1 (fun n _ => .bool (n != 0)) := by
  refine ⟨⟨⟨false, true, [⟨'?', 1, 0, 1⟩], 1, 1⟩, by kernel_rfl, rfl, fun M A id b start Q E s h => ?_⟩⟩
  obtain ⟨hp, g, dr, tk, os⟩ := s
  unfold Builtin.Struct.unpacked
  simp only [List.forIn_cons, List.forIn_nil, Std.Legacy.Range.forIn_eq_forIn_range', Std.Legacy.Range.size]
  simp (decide := true) only [Nat.sub_zero, Nat.add_sub_cancel, List.range'_succ, List.range'_zero, List.forIn_cons, List.forIn_nil, show (1 - 0 + 1 - 1) / 1 = 1 from rfl]
  repeat lk
  simp only [Nat.add_zero, Nat.zero_mul, Nat.zero_add, Nat.one_mul, show ('?').isLower = false from by decide, Bool.false_and, Bool.true_and, decide_eq_true_eq, Bool.false_eq_true, if_false]
  exact h _ 0
theorem packs_uint8 : Packs #[60, 66] 1 (fun n t => .int n t) := by
  refine ⟨⟨⟨false, false, [⟨'B', 1, 0, 1⟩], 1, 1⟩, by kernel_rfl, rfl, fun M A id b start Q E s h => ?_⟩⟩
  obtain ⟨hp, g, dr, tk, os⟩ := s
  unfold Builtin.Struct.unpacked
  simp only [List.forIn_cons, List.forIn_nil, Std.Legacy.Range.forIn_eq_forIn_range', Std.Legacy.Range.size]
  simp (decide := true) only [Nat.sub_zero, Nat.add_sub_cancel, List.range'_succ, List.range'_zero, List.forIn_cons, List.forIn_nil, show (1 - 0 + 1 - 1) / 1 = 1 from rfl]
  repeat lk
  simp only [Nat.add_zero, Nat.zero_mul, Nat.zero_add, Nat.one_mul, show ('B').isLower = false from by decide, Bool.false_and, Bool.true_and, decide_eq_true_eq, Bool.false_eq_true, if_false]
  exact h _ _
theorem packs_uint16 : Packs #[60, 72] 2 (fun n t => .int n t) := by
  refine ⟨⟨⟨false, false, [⟨'H', 1, 0, 2⟩], 2, 1⟩, by kernel_rfl, rfl, fun M A id b start Q E s h => ?_⟩⟩
  obtain ⟨hp, g, dr, tk, os⟩ := s
  unfold Builtin.Struct.unpacked
  simp only [List.forIn_cons, List.forIn_nil, Std.Legacy.Range.forIn_eq_forIn_range', Std.Legacy.Range.size]
  simp (decide := true) only [Nat.sub_zero, Nat.add_sub_cancel, List.range'_succ, List.range'_zero, List.forIn_cons, List.forIn_nil, show (1 - 0 + 1 - 1) / 1 = 1 from rfl]
  repeat lk
  simp only [Nat.add_zero, Nat.zero_mul, Nat.zero_add, Nat.one_mul, show ('H').isLower = false from by decide, Bool.false_and, Bool.true_and, decide_eq_true_eq, Bool.false_eq_true, if_false]
  exact h _ _
theorem packs_uint32 : Packs #[60, 73] 4 (fun n t => .int n t) := by
  refine ⟨⟨⟨false, false, [⟨'I', 1, 0, 4⟩], 4, 1⟩, by kernel_rfl, rfl, fun M A id b start Q E s h => ?_⟩⟩
  obtain ⟨hp, g, dr, tk, os⟩ := s
  unfold Builtin.Struct.unpacked
  simp only [List.forIn_cons, List.forIn_nil, Std.Legacy.Range.forIn_eq_forIn_range', Std.Legacy.Range.size]
  simp (decide := true) only [Nat.sub_zero, Nat.add_sub_cancel, List.range'_succ, List.range'_zero, List.forIn_cons, List.forIn_nil, show (1 - 0 + 1 - 1) / 1 = 1 from rfl]
  repeat lk
  simp only [Nat.add_zero, Nat.zero_mul, Nat.zero_add, Nat.one_mul, show ('I').isLower = false from by decide, Bool.false_and, Bool.true_and, decide_eq_true_eq, Bool.false_eq_true, if_false]
  exact h _ _
theorem packs_uint64 : Packs #[60, 81] 8 (fun n t => .int n t) := by
  refine ⟨⟨⟨false, false, [⟨'Q', 1, 0, 8⟩], 8, 1⟩, by kernel_rfl, rfl, fun M A id b start Q E s h => ?_⟩⟩
  obtain ⟨hp, g, dr, tk, os⟩ := s
  unfold Builtin.Struct.unpacked
  simp only [List.forIn_cons, List.forIn_nil, Std.Legacy.Range.forIn_eq_forIn_range', Std.Legacy.Range.size]
  simp (decide := true) only [Nat.sub_zero, Nat.add_sub_cancel, List.range'_succ, List.range'_zero, List.forIn_cons, List.forIn_nil, show (1 - 0 + 1 - 1) / 1 = 1 from rfl]
  repeat lk
  simp only [Nat.add_zero, Nat.zero_mul, Nat.zero_add, Nat.one_mul, show ('Q').isLower = false from by decide, Bool.false_and, Bool.true_and, decide_eq_true_eq, Bool.false_eq_true, if_false]
  exact h _ _
theorem packs_int8 : Packs #[60, 98] 1 (fun n t => .int (if n ≥ 2 ^ (8 * 1 - 1) then (n : Int) - 2 ^ (8 * 1) else n) t) := by
  refine ⟨⟨⟨false, false, [⟨'b', 1, 0, 1⟩], 1, 1⟩, by kernel_rfl, rfl, fun M A id b start Q E s h => ?_⟩⟩
  obtain ⟨hp, g, dr, tk, os⟩ := s
  unfold Builtin.Struct.unpacked
  simp only [List.forIn_cons, List.forIn_nil, Std.Legacy.Range.forIn_eq_forIn_range', Std.Legacy.Range.size]
  simp (decide := true) only [Nat.sub_zero, Nat.add_sub_cancel, List.range'_succ, List.range'_zero, List.forIn_cons, List.forIn_nil, show (1 - 0 + 1 - 1) / 1 = 1 from rfl]
  repeat lk
  simp only [Nat.add_zero, Nat.zero_mul, Nat.zero_add, Nat.one_mul, show ('b').isLower = true from by decide, Bool.false_and, Bool.true_and, decide_eq_true_eq, Bool.false_eq_true, if_false]
  exact h _ _
theorem packs_int16 : Packs #[60, 104] 2 (fun n t => .int (if n ≥ 2 ^ (8 * 2 - 1) then (n : Int) - 2 ^ (8 * 2) else n) t) := by
  refine ⟨⟨⟨false, false, [⟨'h', 1, 0, 2⟩], 2, 1⟩, by kernel_rfl, rfl, fun M A id b start Q E s h => ?_⟩⟩
  obtain ⟨hp, g, dr, tk, os⟩ := s
  unfold Builtin.Struct.unpacked
  simp only [List.forIn_cons, List.forIn_nil, Std.Legacy.Range.forIn_eq_forIn_range', Std.Legacy.Range.size]
  simp (decide := true) only [Nat.sub_zero, Nat.add_sub_cancel, List.range'_succ, List.range'_zero, List.forIn_cons, List.forIn_nil, show (1 - 0 + 1 - 1) / 1 = 1 from rfl]
  repeat lk
  simp only [Nat.add_zero, Nat.zero_mul, Nat.zero_add, Nat.one_mul, show ('h').isLower = true from by decide, Bool.false_and, Bool.true_and, decide_eq_true_eq, Bool.false_eq_true, if_false]
  exact h _ _
theorem packs_int32 : Packs #[60, 105] 4 (fun n t => .int (if n ≥ 2 ^ (8 * 4 - 1) then (n : Int) - 2 ^ (8 * 4) else n) t) := by
  refine ⟨⟨⟨false, false, [⟨'i', 1, 0, 4⟩], 4, 1⟩, by kernel_rfl, rfl, fun M A id b start Q E s h => ?_⟩⟩
  obtain ⟨hp, g, dr, tk, os⟩ := s
  unfold Builtin.Struct.unpacked
  simp only [List.forIn_cons, List.forIn_nil, Std.Legacy.Range.forIn_eq_forIn_range', Std.Legacy.Range.size]
  simp (decide := true) only [Nat.sub_zero, Nat.add_sub_cancel, List.range'_succ, List.range'_zero, List.forIn_cons, List.forIn_nil, show (1 - 0 + 1 - 1) / 1 = 1 from rfl]
  repeat lk
  simp only [Nat.add_zero, Nat.zero_mul, Nat.zero_add, Nat.one_mul, show ('i').isLower = true from by decide, Bool.false_and, Bool.true_and, decide_eq_true_eq, Bool.false_eq_true, if_false]
  exact h _ _
theorem packs_int64 : Packs #[60, 113] 8 (fun n t => .int (if n ≥ 2 ^ (8 * 8 - 1) then (n : Int) - 2 ^ (8 * 8) else n) t) := by
  refine ⟨⟨⟨false, false, [⟨'q', 1, 0, 8⟩], 8, 1⟩, by kernel_rfl, rfl, fun M A id b start Q E s h => ?_⟩⟩
  obtain ⟨hp, g, dr, tk, os⟩ := s
  unfold Builtin.Struct.unpacked
  simp only [List.forIn_cons, List.forIn_nil, Std.Legacy.Range.forIn_eq_forIn_range', Std.Legacy.Range.size]
  simp (decide := true) only [Nat.sub_zero, Nat.add_sub_cancel, List.range'_succ, List.range'_zero, List.forIn_cons, List.forIn_nil, show (1 - 0 + 1 - 1) / 1 = 1 from rfl]
  repeat lk
  simp only [Nat.add_zero, Nat.zero_mul, Nat.zero_add, Nat.one_mul, show ('q').isLower = true from by decide, Bool.false_and, Bool.true_and, decide_eq_true_eq, Bool.false_eq_true, if_false]
  exact h _ _
end
section
theorem txt20 {n : Int} (h0 : -(2 ^ 64 + 2) ≤ n) (h1 : n ≤ 2 ^ 64 + 2) : (toString n).length ≤ 21 := by
  refine int_text_length_le10 (a := n) (k := 20) (by decide) ?_
  rw [show (10 : Nat) ^ 20 = 100000000000000000000 from by decide]
  omega
theorem unpack_call {prog : Program} {w : World} {A : Around} {E : Value → Shared → Prop} {s : Shared} {Q : Value → Shared → Prop} {h₀ : Heap} {L : Addr} {m : Str → Option Value} {news : List (Addr × Obj)} {P d : Addr} {f b : Array UInt8} {tb t : Tok} {wd : Nat} {v : Nat → Tok → Value} {n : Int}
    (hh : A.handled = none) (F : Fr h₀ L s.heap m) (N : News h₀ L s.heap news) (hP : s.heap.get? P = some (packObj f tb)) (hd : s.heap.get? d = some (baObj b)) (PK : Packs f wd v) (h0 : 0 ≤ n) (h1 : n < 2 ^ 62) (hb : b.size ≤ 64) (hw : wd ≤ 8)
    (hok : n + wd ≤ b.size → ∀ T t h' tk', Fr h₀ L h' m → News h₀ L h' ((T, oneTup (v (Builtin.Memoryview.littleEndian (b.extract n.toNat (n.toNat + wd))) t)) :: news) → (∀ q ∈ news, q.1 < T) → Q (.ref T) { s with heap := h', toks := tk' })
    (hno : ¬ (n + wd ≤ b.size) → ∀ h' tk' e, Heap.NewExc s.heap h' e "struct.error" → E (.ref e) { s with heap := h', toks := tk' }) :
    wpAny (model prog w) A (call (.builtin "_struct.Struct.unpack_from") [.ref P, .ref d, .int n t]) Q E s := by
  obtain ⟨F', hparse, hsize, run⟩ := PK.run
  refine wpAny_call_entry FF.slot_uf ⟨_, hP, rfl⟩ FF.entry_uf ?_ (FF.args_uf _ _ _)
  obtain ⟨hp, g, dr, tk, os⟩ := s
  dsimp only at hP hd F N
  have L1 := looks_buffer (M := model prog w) (id := "_struct.Struct.unpack_from") (full := false) hd
  have L2 : Looks (model prog w) hp (field (.ref P) 0) (.bytes f tb) := looks_field hP 0 rfl
  have L3 : Looks (model prog w) hp (Builtin.Struct.parse f) F' := Looks.of_pure hparse
  unfold Builtin.«_struct.Struct.unpack_from»
  dsimp only
  rw [FF.bind_uf]
  unfold Builtin.Struct.unpackFrom Builtin.Struct.structFormat Builtin.Bytes.bytesLike Builtin.Bytes.indexHeld
  have e1 : Builtin.Bytes.fitsIndex n = true := by unfold Builtin.Bytes.fitsIndex; simp only [Bool.and_eq_true, decide_eq_true_eq]; omega
  repeat (first | simp only [e1, Bool.not_true, Bool.false_eq_true, if_false] | lk)
  have hn0 : ¬ n < 0 := by omega
  simp only [if_neg hn0, hsize]
  by_cases hin : n + wd ≤ b.size
  · have e2 : ¬ ((b.size : Int) - n < (wd : Int)) := by omega
    simp only [if_neg e2]
    lk
    lk
    lk
    with_reducible refine run _ _ _ _ _ _ _ _ ?_
    intro tk' t'
    refine wpAny_pure ⟨_, rfl, ?_⟩
    exact hok hin hp.objs.size t' _ tk' (F.push _) (N.push F _) fun q hq => Heap.lt_size (N q hq).1
  · have e2 : ((b.size : Int) - n < (wd : Int)) := by omega
    simp only [if_pos e2]
    lk
    with_reducible refine wpAny_rule ?_
    lk
    with_reducible refine raise_struct hh ?_ ?_
    · exact fun h' tk' e he => hno hin h' tk' e he
    have l1 := txt20 (n := n) (by omega) (by omega)
    have l2 := txt20 (n := n + wd) (by omega) (by omega)
    have l3 := txt20 (n := (wd : Int)) (by omega) (by omega)
    have l4 := txt20 (n := (b.size : Int)) (by omega) (by omega)
    rw [PySem.ofString_length, sizeLine_eq]
    simp only [String.length_append]
    have c1 : (toString "unpack_from").length + (toString " requires a buffer of at least ").length + (toString " bytes for ").length + (toString "unpacking").length + (toString " ").length + (toString " bytes at offset ").length + (toString " (actual buffer size is ").length + (toString ")").length ≤ 1000 := by decide +kernel
    have c2 : (toString (wd : Int)) = toString wd := rfl
    have c3 : (toString (b.size : Int)) = toString b.size := rfl
    rw [c2] at l3
    rw [c3] at l4
    omega
end
section
/-- the kinds of numbers: 0 bool, 1 uint8, 2 uint16, 3 uint32, 4 uint64, 5 int8, 6 int16, 7 int32, 8 int64 -/
def wdK : Nat → Nat | 0 => 1 | 1 => 1 | 2 => 2 | 3 => 4 | 4 => 8 | 5 => 1 | 6 => 2 | 7 => 4 | _ => 8
def loK : Nat → Int | 0 => 0 | 1 => 0 | 2 => 0 | 3 => 0 | 4 => 0 | 5 => -128 | 6 => -32768 | 7 => -2147483648 | _ => -9223372036854775808
def hiK : Nat → Int | 0 => 1 | 1 => 255 | 2 => 65535 | 3 => 4294967295 | 4 => 18446744073709551615 | 5 => 127 | 6 => 32767 | 7 => 2147483647 | _ => 9223372036854775807
def loV (k : Nat) (t : Tok) : Value := if k = 0 then .bool false else .int (loK k) t
def hiV (k : Nat) (t : Tok) : Value := if k = 0 then .bool true else .int (hiK k) t
def decode (k : Nat) (le : Nat) : Ans := if k = 0 then .bool (le != 0) else .int (if 5 ≤ k ∧ le ≥ 2 ^ (8 * wdK k - 1) then (le : Int) - 2 ^ (8 * wdK k) else le)
structure KindAt (w : World) (C : Addr) (k : Nat) : Prop where
  flag : ∃ P nm t1 t2, nm.length ≤ 100 ∧ Flag (hd.heap_1 w.params) C (loV k t1) (hiV k t2) (.type (if k = 0 then "bool" else "int")) (.ref P) nm ∧
    ∃ fmt tb, (hd.heap_1 w.params).lookup P = some (packObj fmt tb) ∧ Packs fmt (wdK k) (fun n t => (decode k n).val t)
theorem Packs.of {fmt : Array UInt8} {wd : Nat} {v v' : Nat → Tok → Value} (h : Packs fmt wd v) (e : v = v') : Packs fmt wd v' := e ▸ h

theorem fill {p : Prop} (h : PySem.Challenge.rw_ke0006_01 = PySem.Challenge.rw_ke0006_01 → hd.heap_1 = hd.heap_1 → p) : p := h rfl rfl
theorem kinds_all (w : World) : KindAt w 61 0 ∧ KindAt w 75 1 ∧ KindAt w 89 2 ∧ KindAt w 103 3 ∧ KindAt w 117 4 ∧ KindAt w 131 5 ∧ KindAt w 145 6 ∧ KindAt w 159 7 ∧ KindAt w 173 8 ∧ KindAt w 187 7 ∧ KindAt w 199 3 ∧ KindAt w 211 2 := by
  refine fill ?_
  k_fill
  intro _ _
  refine ⟨?_, ?_, ?_, ?_, ?_, ?_, ?_, ?_, ?_, ?_, ?_, ?_⟩
  · exact ⟨⟨43, Str.ofString "bool", 0, 0, by decide +kernel, ⟨by k_is, by k_is, by k_is, by k_is, by k_is, by k_is, by k_is, ⟨371, by k_is⟩⟩, #[63], 326, by k_is, packs_bool.of (by funext n t; simp [decode, Ans.val, wdK])⟩⟩
  · exact ⟨⟨44, Str.ofString "uint8", 396, 402, by decide +kernel, ⟨by k_is, by k_is, by k_is, by k_is, by k_is, by k_is, by k_is, ⟨405, by k_is⟩⟩, #[60, 66], 329, by k_is, packs_uint8.of (by funext n t; simp [decode, Ans.val, wdK])⟩⟩
  · exact ⟨⟨45, Str.ofString "uint16", 430, 436, by decide +kernel, ⟨by k_is, by k_is, by k_is, by k_is, by k_is, by k_is, by k_is, ⟨439, by k_is⟩⟩, #[60, 72], 332, by k_is, packs_uint16.of (by funext n t; simp [decode, Ans.val, wdK])⟩⟩
  · exact ⟨⟨46, Str.ofString "uint32", 464, 470, by decide +kernel, ⟨by k_is, by k_is, by k_is, by k_is, by k_is, by k_is, by k_is, ⟨473, by k_is⟩⟩, #[60, 73], 335, by k_is, packs_uint32.of (by funext n t; simp [decode, Ans.val, wdK])⟩⟩
  · exact ⟨⟨47, Str.ofString "uint64", 498, 504, by decide +kernel, ⟨by k_is, by k_is, by k_is, by k_is, by k_is, by k_is, by k_is, ⟨507, by k_is⟩⟩, #[60, 81], 338, by k_is, packs_uint64.of (by funext n t; simp [decode, Ans.val, wdK])⟩⟩
  · exact ⟨⟨48, Str.ofString "int8", 535, 541, by decide +kernel, ⟨by k_is, by k_is, by k_is, by k_is, by k_is, by k_is, by k_is, ⟨544, by k_is⟩⟩, #[60, 98], 341, by k_is, packs_int8.of (by funext n t; simp [decode, Ans.val, wdK])⟩⟩
  · exact ⟨⟨49, Str.ofString "int16", 572, 578, by decide +kernel, ⟨by k_is, by k_is, by k_is, by k_is, by k_is, by k_is, by k_is, ⟨581, by k_is⟩⟩, #[60, 104], 344, by k_is, packs_int16.of (by funext n t; simp [decode, Ans.val, wdK])⟩⟩
  · exact ⟨⟨50, Str.ofString "int32", 609, 615, by decide +kernel, ⟨by k_is, by k_is, by k_is, by k_is, by k_is, by k_is, by k_is, ⟨618, by k_is⟩⟩, #[60, 105], 347, by k_is, packs_int32.of (by funext n t; simp [decode, Ans.val, wdK])⟩⟩
  · exact ⟨⟨51, Str.ofString "int64", 646, 652, by decide +kernel, ⟨by k_is, by k_is, by k_is, by k_is, by k_is, by k_is, by k_is, ⟨655, by k_is⟩⟩, #[60, 113], 350, by k_is, packs_int64.of (by funext n t; simp [decode, Ans.val, wdK])⟩⟩
  · exact ⟨⟨50, Str.ofString "int32", 609, 615, by decide +kernel, ⟨by k_is, by k_is, by k_is, by k_is, by k_is, by k_is, by k_is, ⟨618, by k_is⟩⟩, #[60, 105], 347, by k_is, packs_int32.of (by funext n t; simp [decode, Ans.val, wdK])⟩⟩
  · exact ⟨⟨46, Str.ofString "uint32", 464, 470, by decide +kernel, ⟨by k_is, by k_is, by k_is, by k_is, by k_is, by k_is, by k_is, ⟨473, by k_is⟩⟩, #[60, 73], 335, by k_is, packs_uint32.of (by funext n t; simp [decode, Ans.val, wdK])⟩⟩
  · exact ⟨⟨45, Str.ofString "uint16", 430, 436, by decide +kernel, ⟨by k_is, by k_is, by k_is, by k_is, by k_is, by k_is, by k_is, ⟨439, by k_is⟩⟩, #[60, 72], 332, by k_is, packs_uint16.of (by funext n t; simp [decode, Ans.val, wdK])⟩⟩
theorem kind_61 (w : World) : KindAt w 61 0 := (kinds_all w).1
theorem kind_75 (w : World) : KindAt w 75 1 := (kinds_all w).2.1
theorem kind_89 (w : World) : KindAt w 89 2 := (kinds_all w).2.2.1
theorem kind_103 (w : World) : KindAt w 103 3 := (kinds_all w).2.2.2.1
theorem kind_117 (w : World) : KindAt w 117 4 := (kinds_all w).2.2.2.2.1
theorem kind_131 (w : World) : KindAt w 131 5 := (kinds_all w).2.2.2.2.2.1
theorem kind_145 (w : World) : KindAt w 145 6 := (kinds_all w).2.2.2.2.2.2.1
theorem kind_159 (w : World) : KindAt w 159 7 := (kinds_all w).2.2.2.2.2.2.2.1
theorem kind_173 (w : World) : KindAt w 173 8 := (kinds_all w).2.2.2.2.2.2.2.2.1
theorem kind_187 (w : World) : KindAt w 187 7 := (kinds_all w).2.2.2.2.2.2.2.2.2.1
theorem kind_199 (w : World) : KindAt w 199 3 := (kinds_all w).2.2.2.2.2.2.2.2.2.2.1
theorem kind_211 (w : World) : KindAt w 211 2 := (kinds_all w).2.2.2.2.2.2.2.2.2.2.2
end
section
namespace FF
theorem ga_struct : typeLookup (.type "_struct.Struct") "__getattribute__" = pure (some (.builtin "_struct.Struct.__getattribute__")) := by rw [typeLookup_type, builtinLookup_eq_fast]; kernel_rfl
theorem plain_struct : PlainAttrs "_struct.Struct" := ⟨⟨"_struct.Struct.__getattribute__", ga_struct, by decide +kernel⟩, by rw [typeLookup_type, builtinLookup_eq_fast]; kernel_rfl⟩
theorem ty_uf : typeOf (.builtin "_struct.Struct.unpack_from") = pure (.type "method_descriptor") := by
  show builtinType _ = _
  rw [builtinType_eq_fast]; kernel_rfl
end FF
theorem method_unpack {M : Model} {A : Around} {E : Value → Shared → Prop} {s : Shared} {pl : Sem Bool} {Q : Value × List Value → Shared → Prop} {P : Addr} {f : Array UInt8} {tb : Tok} (hP : s.heap.get? P = some (packObj f tb))
    (h : Q (.builtin "_struct.Struct.unpack_from", [.ref P]) s) : wpAny M A (getMethod (.ref P) (Str.ofString "unpack_from") pl) Q E s :=
  getMethod_builtin ⟨_, hP, rfl⟩ FF.plain_struct FF.slot_uf FF.ty_uf (fun a e => by cases e; exact ⟨_, hP, rfl⟩) h
namespace FF
theorem mt_int : typeOf (.type "int") = pure (.type "type") := by
  show (pure (.type ((Manifest.find? "int").elim "type" (·.metatype))) : Sem Value) = _
  rw [find?_eq_fast]; kernel_rfl
theorem mt_bool : typeOf (.type "bool") = pure (.type "type") := by
  show (pure (.type ((Manifest.find? "bool").elim "type" (·.metatype))) : Sem Value) = _
  rw [find?_eq_fast]; kernel_rfl
theorem noget_type : typeLookup (.type "type") "__get__" = pure none := by rw [typeLookup_type, builtinLookup_eq_fast]; kernel_rfl
end FF
theorem cls_pyt {prog : Program} {w : World} {A : Around} {E : Value → Shared → Prop} {s : Shared} {K : Frag} {C : Addr} {T : String} {expr : Bool} {Q : Value → Shared → Prop} (X : K.In s.heap) (hr : readsIn K C (.type "type") = true)
    (h1 : findIn K (.ref C) (Str.ofString "py_type") = some (some (.type T))) (h2 : findIn K (.type "type") (Str.ofString "py_type") = some none) (hT : typeOf (.type T) = pure (.type "type"))
    (h : Q (.type T) { s with toks := s.toks + 1 }) : wpAny (model prog w) A (getAttr (.ref C) (Str.ofString "py_type") expr) Q E s := by
  simp only [readsIn, Bool.and_eq_true, beq_iff_eq] at hr
  obtain ⟨⟨⟨⟨r1, r2⟩, r3⟩, r4⟩, r5⟩ := hr
  obtain ⟨hk, r4⟩ := Option.isSome_iff_exists.mp r4
  obtain ⟨hh, g, d, t, os⟩ := s
  dsimp only at X
  have L0 := looks_typeIn (M := model prog w) X r2
  have L1 := looks_findIn (M := model prog w) X r3
  have L2 := looks_hook (M := model prog w) X r4
  have L3 := looks_opaque (M := model prog w) (C := C) X r1
  have L4 := looks_findIn (M := model prog w) X h1
  have L5 := looks_findIn (M := model prog w) X h2
  have L6 : Looks (model prog w) hh (typeOf (.type T)) (.type "type") := Looks.of_pure hT
  have L7 : Looks (model prog w) hh (specialOf (.type T) (Str.ofString "__get__")) none := L6.andThen (Looks.of_pure FF.noget_type)
  have L8 : Looks (model prog w) hh (typeLookup (.type "type") (Str.ofString "__getattribute__")) (some (.builtin "type.__getattribute__")) := L1
  have n1 : (Value.builtin "type.__getattribute__" == Value.builtin "object.__getattribute__") = false := by decide +kernel
  have n2 : onTheHeap (Value.builtin "type.__getattribute__") = false := rfl
  refine wpAny_bind (wpAny_mkText (wpAny_holding (wpAny_bind (L0.at (wpAny_bind (L1.at ?_))))))
  dsimp only
  simp only [n1, Bool.and_false, Bool.false_eq_true, if_false]
  refine wpAny_bind (L2.at (wpAny_bind (wpAny_attempt (wpAny_holding ?_))))
  unfold callGetattribute
  simp only [n2, Bool.and_false, Bool.false_eq_true, if_false]
  unfold boundAndCalled
  rw [KF.slot_tga.bind]
  refine wpAny_bind (wpAny_pure ?_)
  refine wpAny_call (codeAny_call_builtin KF.slot_tga.plain KF.entry_tga ?_)
  refine @check_slot (model prog w) _ _ _ "type.__getattribute__" "type" "__getattribute__" (.ref C) [.str _ _] [] _ (by decide +kernel) (by decide +kernel) (L0.andThen (looks_subIn X r5)) (KF.args_tga _ _) ?_
  unfold Builtin.«type.__getattribute__»
  repeat (first | simp only [Bool.false_eq_true, if_false] | lk)
  exact h
end
section
theorem Flag.sp {K : Frag} {C : Addr} {lo hi py pk : Value} {nm : Str} (h : Flag K C lo hi py pk nm) : specialIn K (.ref C) (Str.ofString "__getattribute__") = some (some (.builtin "type.__getattribute__")) := by
  have hr := h.rd
  simp only [readsIn, Bool.and_eq_true, beq_iff_eq] at hr
  unfold specialIn
  rw [h.ty, Option.bind_some]
  exact hr.1.1.2
def Ans.isVal : Ans → Bool | .typ => false | .fin => false | _ => true
theorem SaysRet.ret {news : List (Addr × Obj)} {a : Ans} {Q E : Value → Shared → Prop} {base h₀ : Heap} {L : Addr} {m : Str → Option Value} {fr : List Env} {s : Shared} (h : SaysRet news a Q E base h₀ L m fr s) (hv : a.isVal = true) : Rets a.val Q h₀ L m news s := by
  cases a <;> first | exact h | cases hv
theorem decode_isVal (k le : Nat) : (decode k le).isVal = true := by unfold decode; split <;> rfl
section
variable {M : Model} {A : Around} {E : Value → Shared → Prop} {s' : Shared} {base g g₂ h : Heap} {outer : List Env} {L a e : Addr} {m : Str → Option Value} {name : Str} {scope : Scope} {cd : Value} {Q : Unit → Shared → Prop} {news : List (Addr × Obj)}
theorem leave_raiseN {cls : Value} {vs : List Value} (K : Below A base outer g) (hx : Heap.MadeExcOf h s'.heap e cls vs) (F : Fr g L h m) (N : News g L h news)
    (hQ : ∀ h', RaisedSN base g outer e cls news h' → g.UpToSlots h' → Q () { s' with heap := h' }) (hk : scope.kind = .function := by rfl) :
    wpAny M (A.deeper (envOf name scope L a cd)) (leaving (envOf name scope L a cd) (.ref e)) Q E s' :=
  leave_raiseS K hx F N (fun h' _ R _ U => hQ h' (raisedS_weak R fun _ h => h) U) hk
theorem leave_newN {cls : String} (K : Below A base outer g) (hx : Heap.NewExc h s'.heap e cls) (F : Fr g L h m) (N : News g L h news)
    (hQ : ∀ h', RaisedSN base g outer e (.type cls) news h' → g.UpToSlots h' → Q () { s' with heap := h' }) (hk : scope.kind = .function := by rfl) :
    wpAny M (A.deeper (envOf name scope L a cd)) (leaving (envOf name scope L a cd) (.ref e)) Q E s' :=
  leave_newS K hx F N (fun h' R _ U => hQ h' R U) hk
end
/-- the reading at a place: a number of kind k, or the end -/
def rd (k : Nat) (b : Array UInt8) (n : Int) : Ans := if n + wdK k ≤ b.size then decode k (Builtin.Memoryview.littleEndian (b.extract n.toNat (n.toNat + wdK k))) else .fin
end
section
theorem gives_le_bool_int (p : Bool) (b : Int) (u : Tok) : Gives (Builtin.«int.__le__» ⟨[.bool p, .int b u], []⟩) (.val (Value.bool (decide ((if p = true then (1 : Int) else 0) ≤ b)))) :=
  .of_wp fun M A E s Q h => by obtain ⟨hp, g, d, tk, os⟩ := s; wp_walk; exact ⟨_, rfl, h⟩
theorem gives_ge_bool_int (p : Bool) (b : Int) (u : Tok) : Gives (Builtin.«int.__ge__» ⟨[.bool p, .int b u], []⟩) (.val (Value.bool (decide ((if p = true then (1 : Int) else 0) ≥ b)))) :=
  .of_wp fun M A E s Q h => by obtain ⟨hp, g, d, tk, os⟩ := s; wp_walk; exact ⟨_, rfl, h⟩
section
variable {prog : Program} {w : World} {A : Around} {E : Value → Shared → Prop} {s : Shared} {a : Bool} {b : Int} {u : Tok} {Q : Value → Shared → Prop}
theorem le_bool_int (h : Q (.bool (decide ((if a = true then (1 : Int) else 0) ≤ b))) s) : wpAny (model prog w) A (compareOp .LtE (.bool a) (.int b u)) Q E s :=
  PySem.SeqAt.rc_left_or (op := .LtE) rfl (typeIs_int s b u) (by decide) F.sub_int_bool F.slot_bool_le (call_gives F.slot_bool_le rfl F.entry_int_le (F.args_int_le_2 _ _) (gives_le_bool_int a b u) ⟨nofun, h⟩) (.inl rfl)
theorem le_int_bool (h : Q (.bool (decide (b ≤ (if a = true then (1 : Int) else 0)))) s) : wpAny (model prog w) A (compareOp .LtE (.int b u) (.bool a)) Q E s :=
  PySem.SeqAt.rc_sub_first_or (op := .LtE) (typeIs_int s b u) rfl (by decide) F.sub_bool_int F.slot_bool_ge (call_gives F.slot_bool_ge rfl F.entry_int_ge (F.args_int_ge_2 _ _) (gives_ge_bool_int a b u) ⟨nofun, h⟩) (.inl rfl)
end
end
section
theorem le_fold_lt : ∀ l : List UInt8, l.foldr (fun c n => n * 256 + c.toNat) 0 < 256 ^ l.length
  | [] => by simp
  | c :: r => by
    have ih := le_fold_lt r
    have hc := c.toNat_lt
    simp only [List.foldr_cons, List.length_cons, Nat.pow_succ]
    omega
theorem littleEndian_lt (a : Array UInt8) : Builtin.Memoryview.littleEndian a < 256 ^ a.size := by
  unfold Builtin.Memoryview.littleEndian
  rw [← Array.foldr_toList, ← Array.length_toList]
  exact le_fold_lt _
theorem wdK_le (k : Nat) : wdK k ≤ 8 := by unfold wdK; split <;> omega
theorem decode_bounds {k le : Nat} {i : Int} (h : le < 256 ^ wdK k) (e : decode k le = .int i) : loK k ≤ i ∧ i ≤ hiK k := by
  unfold decode at e
  split at e
  · cases e
  · rename_i hk
    cases e
    have hk9 : k = 1 ∨ k = 2 ∨ k = 3 ∨ k = 4 ∨ k = 5 ∨ k = 6 ∨ k = 7 ∨ 8 ≤ k := by omega
    rcases hk9 with rfl | rfl | rfl | rfl | rfl | rfl | rfl | hk8
    all_goals first | (simp only [wdK, loK, hiK] at *; split <;> omega) | skip
    have w8 : wdK k = 8 := by unfold wdK; split <;> omega
    have l8 : loK k = -9223372036854775808 := by unfold loK; split <;> omega
    have h8 : hiK k = 9223372036854775807 := by unfold hiK; split <;> omega
    rw [w8] at h
    rw [w8, l8, h8]
    split <;> omega
theorem rd_bounds {k : Nat} {b : Array UInt8} {n i : Int} (h0 : 0 ≤ n) (e : rd k b n = .int i) : loK k ≤ i ∧ i ≤ hiK k := by
  unfold rd at e
  split at e
  · refine decode_bounds ?_ e
    refine Nat.lt_of_lt_of_le (littleEndian_lt _) (Nat.pow_le_pow_right (by decide) ?_)
    rw [Array.size_extract]
    omega
  · cases e
theorem rd_shape {k : Nat} {b : Array UInt8} {n : Int} (hk : ¬ k = 0) : (∃ i, rd k b n = .int i) ∨ rd k b n = .fin := by
  unfold rd decode
  rw [if_neg hk]
  split
  · exact .inl ⟨_, rfl⟩
  · exact .inr rfl
end
section
namespace FF
theorem slot_bagi : Slot "bytearray" "__getitem__" "bytearray.__getitem__" :=
  .of (owner := "bytearray") (n := "__getitem__") (by rw [typeLookup_type, builtinLookup_eq_fast]; kernel_rfl) (by decide +kernel) (by decide +kernel) (by decide +kernel)
    (by first | exact .inl (by decide +kernel) | exact .inr (by decide +kernel)) (by rw [isSubtype_type]; kernel_rfl)
theorem entry_bagi : entryFor table "bytearray.__getitem__" = some Builtin.«bytearray.__getitem__» := entryFor_of_tree (by kernel_rfl)
theorem args_bagi (a b : Value) : argsOk "bytearray.__getitem__" ⟨[a, b], []⟩ := by unfold argsOk; rw [PySem.W.S.signatureZ_eq]; kernel_rfl
theorem int_index : typeLookup (.type "int") "__index__" = pure (some (.builtin "int.__index__")) := by rw [typeLookup_type, builtinLookup_eq_fast]; kernel_rfl
end FF
section
variable {prog : Program} {w : World} {A : Around} {E : Value → Shared → Prop} {s : Shared} {value slice : PySem.Expr} {b : Array UInt8} {h₀ : Heap} {L d : Addr} {m : PySem.Str → Option Value} {news : List (Addr × Obj)} {Q : Value → Shared → Prop} {i j : Int} {ti tj : Tok}
theorem ba_slice (F : Fr h₀ L s.heap m) (N : News h₀ L s.heap news) (hm : (d, baObj b) ∈ news) (hb : b.size ≤ 64)
    (h : ∀ D h' k, Fr h₀ L h' m → News h₀ L h' ((D, baObj (KBy.picked b (some i) (some j))) :: news) → (∀ q ∈ news, q.1 < D) → Q (.ref D) { s with heap := h', toks := k })
    (hs : subscripted slice false (.ref d) (.ref s.heap.objs.size) = operate [.ref s.heap.objs.size, .ref d] (getItem (.ref d) (.ref s.heap.objs.size)) := by with_unfolding_all rfl) :
    wpAny (model prog w) A (subscriptTail value slice (.ref d) (.ref s.heap.objs.size)) Q E { s with heap := s.heap.push { cls := .type "slice", data := .fields #[.int i ti, .int j tj, .none] } } := by
  have hd : (s.heap.push { cls := .type "slice", data := .fields #[.int i ti, .int j tj, .none] }).get? d = some (baObj b) := Heap.get?_push_of_some _ (N.get hm)
  have hT : Shared.TypeIs { s with heap := s.heap.push { cls := .type "slice", data := .fields #[.int i ti, .int j tj, .none] } } (.ref d) "bytearray" := ⟨_, hd, rfl⟩
  refine tail_any hT FF.slot_bagi.lookup (wpAny_getItem_slot hT (by decide) FF.slot_bagi (wpAny_call_entry FF.slot_bagi hT FF.entry_bagi ?_ (FF.args_bagi _ _))) hs
  have hsl : (s.heap.push { cls := .type "slice", data := .fields #[.int i ti, .int j tj, .none] }).get? s.heap.objs.size = some { cls := .type "slice", data := .fields #[.int i ti, .int j tj, .none] } := Heap.get?_push_size _ rfl
  have FP := F.push { cls := .type "slice", data := .fields #[.int i ti, .int j tj, .none] }
  have NP : News h₀ L (s.heap.push { cls := .type "slice", data := .fields #[.int i ti, .int j tj, .none] }) news := News.pushKeep N _
  have hlt : ∀ q ∈ news, q.1 < (s.heap.push { cls := .type "slice", data := .fields #[.int i ti, .int j tj, .none] }).objs.size := fun q hq => Heap.lt_size (NP q hq).1
  obtain ⟨hp, g, dr, tk, os⟩ := s
  dsimp only at *
  generalize hh : (hp.push { cls := .type "slice", data := .fields #[.int i ti, .int j tj, .none] }) = H at *
  have L1 : Looks (model prog w) H (typeOf (.ref hp.objs.size)) (.type "slice") := (Looks.ld hsl).andThen .now
  have L2 : Looks (model prog w) H (specialOf (.ref hp.objs.size) (Str.ofString "__index__")) none := L1.andThen (Looks.of_pure slice_no_index)
  have L3 : Looks (model prog w) H (field (.ref hp.objs.size) 0) (.int i ti) := looks_field hsl 0 rfl
  have L4 : Looks (model prog w) H (field (.ref hp.objs.size) 1) (.int j tj) := looks_field hsl 1 rfl
  have L5 : Looks (model prog w) H (field (.ref hp.objs.size) 2) .none := looks_field hsl 2 rfl
  have L6 := looks_payload (M := model prog w) hd
  have L7 : ∀ n t, Looks (model prog w) H (specialOf (.int n t) (Str.ofString "__index__")) (some (.builtin "int.__index__")) := fun n t => Looks.andThen (a := .type "int") (Looks.of_pure rfl) (Looks.of_pure FF.int_index)
  have L8 := L7 i ti
  have L9 := L7 j tj
  have L10 : Looks (model prog w) H (sliceIndices (rawInt i) (rawInt j) .none b.size) (sliceBounds (some i) (some j) none b.size) := Looks.of_pure (sliceIndices_raw (some i) (some j) none b.size (by simp))
  unfold Builtin.«bytearray.__getitem__» Builtin.Bytes.subscript? Builtin.Bytes.sliceParts
  repeat lk
  have hz : ¬ (KBy.picked b (some i) (some j)).size > sizeLine := by
    have := KBc.size_picked_le b (some i) (some j)
    rw [sizeLine_eq]
    omega
  show wpAny (model prog w) A.in1 (if (KBy.picked b (some i) (some j)).size > sizeLine then _ else _) _ _ _
  rw [if_neg hz]
  unfold newObjAsIs
  repeat lk
  refine ⟨_, rfl, ?_⟩
  refine h _ _ _ (FP.push _) (NP.push FP _) hlt
theorem bytes_ba (hm : (d, baObj b) ∈ news) (N : News h₀ L s.heap news) (hb : b.size ≤ 64) (h : ∀ t k, Q (.bytes b t) { s with toks := k }) : wpAny (model prog w) A (call (.type "bytes") [.ref d]) Q E s := by
  have hd := N.get hm
  refine callType_codes (Q₁ := fun obj s₁ => s₁.TypeIs obj "bytes" ∧ Q obj s₁) F.bm_called (F.bm_typeCall _) F.entry_object_init ?_ fun obj s₁ h₁ => ?_
  · refine codeAny_of_tree ?_
    show wpAny _ A.in1.in1 (do checkBuiltinCall "bytes.__new__" ⟨[.type "bytes", .ref d], []⟩; again (.builtin "bytes.__new__" ⟨[.type "bytes", .ref d], []⟩)) _ _ s
    refine wpAny_bind (wpAny_of_eq (F.bm_newCall _) (wpAny_pure ⟨plainId_quiet F.bm_plain _, codeAny_builtin F.bm_entry ?_⟩))
    rw [Around.under_plainId F.bm_plain _]
    obtain ⟨hp, g, dr, tk, os⟩ := s
    dsimp only at hd
    have L1 := looks_baType (M := model prog w) hd
    have L2 := looks_baSpecial (M := model prog w) (name := Str.ofString "__bytes__") (r := none) hd (by rw [typeLookup_type, builtinLookup_eq_fast]; kernel_rfl)
    have L3 := looks_baSpecial (M := model prog w) (name := Str.ofString "__index__") (r := none) hd (by rw [typeLookup_type, builtinLookup_eq_fast]; kernel_rfl)
    have L4 := looks_buffer (M := model prog w) (id := "bytes.__new__") (full := true) hd
    have L5 : Looks (model prog w) hp (isSubtype (.type "bytes") (.type "bytes")) true := Looks.of_pure F.bm_sub
    unfold Builtin.«bytes.__new__»
    dsimp only
    rw [F.bm_bind]
    repeat lk
    rw [if_neg (by rw [sizeLine_eq]; omega)]
    repeat lk
    exact ⟨PySem.W.typeIs_bytes _ _ _, h _ _⟩
  · exact ⟨h₁.1, F.args_object_init_2 obj _, object_init_meets F.bm_called.init.lookup F.bm_called.made (by decide) prog w A.in1 _ s₁ ⟨h₁.1, rfl, h₁.2⟩⟩
end
end
section
namespace FF
theorem slot_baeq : Slot "bytearray" (cmpInfo .Eq).2.1 "bytearray.__eq__" :=
  .of (owner := "bytearray") (n := "__eq__") (by rw [typeLookup_type, builtinLookup_eq_fast]; kernel_rfl) (by decide +kernel) (by decide +kernel) (by decide +kernel)
    (by first | exact .inl (by decide +kernel) | exact .inr (by decide +kernel)) (by rw [isSubtype_type]; kernel_rfl)
theorem entry_baeq : entryFor table "bytearray.__eq__" = some Builtin.«bytearray.__eq__» := entryFor_of_tree (by kernel_rfl)
theorem args_baeq (a b : Value) : argsOk "bytearray.__eq__" ⟨[a, b], []⟩ := by unfold argsOk; rw [PySem.W.S.signatureZ_eq]; kernel_rfl
end FF
theorem order_self : ∀ l : List UInt8, Builtin.Bytes.order l l = .eq
  | [] => rfl
  | x :: r => by
    have h : ¬ x < x := by simp
    simp only [Builtin.Bytes.order, if_neg h]
    exact order_self r
section
variable {prog : Program} {w : World} {A : Around} {E : Value → Shared → Prop} {s : Shared} {b : Array UInt8} {h₀ : Heap} {L d : Addr} {news : List (Addr × Obj)} {Q : Value → Shared → Prop}
theorem ba_eq (hu : A.units < cLine) (N : News h₀ L s.heap news) (hm : (d, baObj b) ∈ news) (h : Q (.bool true) s) : wpAny (model prog w) A (compareOp .Eq (.ref d) (.ref d)) Q E s := by
  have hd := N.get hm
  have hT : s.TypeIs (.ref d) "bytearray" := ⟨_, hd, rfl⟩
  show wpAny _ _ (richCompare .Eq (.ref d) (.ref d)) Q E s
  refine wpAny_richCompare_same_or (op := .Eq) hT hT FF.slot_baeq (wpAny_call_entry FF.slot_baeq hT FF.entry_baeq ?_ (FF.args_baeq _ _)) (.inr hu)
  obtain ⟨hp, g, dr, tk, os⟩ := s
  dsimp only at hd
  have e : Builtin.Bytes.holds "__eq__" (Builtin.Bytes.order b.toList b.toList) = true := by rw [order_self]; rfl
  have L1 := looks_buffer (M := model prog w) (id := toString "bytearray." ++ toString "__eq__") (full := false) hd
  have L2 : Looks (model prog w) hp (Builtin.Bytes.bufferQuiet? (toString "bytearray." ++ toString "__eq__") (.ref d)) (some b) := by
    intro A Q E s k q
    obtain ⟨h', g, dr, tk, os⟩ := s
    have hd' := k _ _ hd
    have L1 := looks_buffer (M := model prog w) (id := toString "bytearray." ++ toString "__eq__") (full := false) hd'
    unfold Builtin.Bytes.bufferQuiet?
    repeat (first | with_reducible refine wpAny_attempt ?_ | lk)
    exact q
  unfold Builtin.«bytearray.__eq__»
  repeat lk
  exact ⟨_, rfl, (by intro h; cases h), by rw [e]; exact h⟩
end
end
section
section
variable {prog : Program} {w : World} {A₀ A : Around} {s : Shared} {base h₀ g₀ : Heap} {L a : Addr} {m : Str → Option Value} {env : Env} {news : List (Addr × Obj)} {K : Frag} {p : Program} {loose : List Str} {mean : ExcName → Option Value} {mg mb : Str → Option Value}
    {R : Result → Shared → Prop} {name qual : Str} {params : Arguments} {body : List Stmt} {scope : Scope} {dV kV doc pm cdv ct oc : Value} {an od : Option Addr} {osl : Array (Option Value)} {f : Addr} {args : Args} {binds : List (Str × Value)}
theorem ktsX_enter (B : Below A₀ base [] h₀) (F : Fr h₀ L s.heap m) (N : News h₀ L s.heap news) (hA : A.frames = some [env]) (hf : env.frame = some L) (hke : env.scope.kind = .function) :
    ∃ oL es ep, (hideAll s.heap (news.map (·.1))).get? L = some oL ∧ oL.data = .dict es ep ∧ (∀ h', h'.get? L = some oL → Heap.Ns h' L m) ∧ (∀ (sl : Array (Option Value)) h', h'.get? L = some { oL with slots := sl } → Heap.Ns h' L m) ∧
      h₀.StaysIn (hideAll s.heap (news.map (·.1))) ∧ Below A base [env] (hideAll s.heap (news.map (·.1))) := by
  have nm : ∀ b o, h₀.get? b = some o → b ∉ news.map (·.1) := fun b o e q => by
    obtain ⟨p, hp, rfl⟩ := List.mem_map.mp q
    rw [(N p hp).2.2] at e; cases e
  have st : h₀.StaysIn (hideAll s.heap (news.map (·.1))) := fun b o e => hideAll_get _ (F.keep b o e) (nm b o e)
  obtain ⟨oL, es, ep, hL, hLd, hLk, hLf⟩ := F.ns
  have nL : L ∉ news.map (·.1) := fun q => by
    obtain ⟨p, hp, e⟩ := List.mem_map.mp q
    exact (N p hp).2.1 e
  have hLg := hideAll_get (news.map (·.1)) hL nL
  have B₁ := pushX B F hf hke
  exact ⟨oL, es, ep, hLg, hLd, fun h' e => ⟨oL, es, ep, e, hLd, hLk, hLf⟩, fun sl h' e => ⟨_, es, ep, e, hLd, hLk, hLf⟩, st, ⟨hA, fun b o e => st b o (B.stays b o e), funFrames_hideAll B₁.frames fun env' he b hb hf' => by
    cases he with
    | head => exact nL ((Option.some.inj (hf.symm.trans hf') : L = b) ▸ hb)
    | tail _ he => cases he⟩⟩
theorem code_defSX (B : Below A₀ base [] h₀) (F : Fr h₀ L s.heap m) (X₀ : K.In h₀) (N : News h₀ L s.heap news) (T : Top p loose mean mg mb h₀) (hA : A.frames = some [env]) (hf : env.frame = some L) (hke : env.scope.kind = .function)
    (ho : K.lookup f = some ⟨oc, od, .func (fnOf name qual params body scope dV kV doc pm an cdv ct), osl⟩) (hcd : codeIn K cdv qual = true) (hroom : A.depth < recursionLimit)
    (hbind : BindsTo s (fnOf name qual params body scope dV kV doc pm an cdv ct) args binds) (hloc : ∀ y ∈ binds, scope.names.lookup y.1 = some .local)
    (h : ∀ g L' h₁, Fr h₀ L g m → Fr g L' h₁ (fun y => binds.reverse.lookup y) → News g L' h₁ news → Below A base [env] g → K.In g → Top p loose mean mg mb g → KtsDicts ([env].filterMap (·.frame)) g →
      wpAny (model prog w) (A.deeper (envOf qual scope L' f cdv)) (execs body (envOf qual scope L' f cdv))
        (fun fl s' => LeaveS0 ([env].filterMap (·.frame)) h₀ L m g R (match fl with | .ret v => v | _ => .none) s')
        (fun e s' => wpAny (model prog w) (A.deeper (envOf qual scope L' f cdv)) (leaving (envOf qual scope L' f cdv) e) (fun _ s'' => R (.error e) s'') (fun e' s'' => R (.error e') s'') s')
        { s with heap := h₁, toks := s.toks + binds.length })
    (hco : scope.isCoroutine = false) (hgen : scope.isGenerator = false) (hk : scope.kind = .function)
    (hcell : ∀ x ∈ scope.names, x.2 ≠ .cell) : codeAny (model prog w) A (.call (.ref f) args) R s := by
  have X := X₀.keeps F.keep
  have fsE : ([env].filterMap (·.frame)) = [L] := by simp [hf]
  refine codeAny_call_def (fd := fnOf name qual params body scope dV kV doc pm an cdv ct) (body := body) (binds := binds) hroom (X _ _ ho) rfl (T.nolimit.keeps F.keep) (codeRec_of X hcd) rfl hbind hcell hloc (fun h₁ hns hk₁ => ?_) hco hgen hk
  obtain ⟨oL, es, ep, hLg, hLd, hN, hNs, st, B₂⟩ := ktsX_enter B F N hA hf hke
  refine wpAny_mono (h _ s.heap.objs.size h₁ ⟨hN _ hLg, st, F.above⟩ ⟨hns, fun b o e => hk₁ b o (of_hideAll _ e), Nat.le_of_eq (hideAll_size _ _)⟩
    (fun p hp => ⟨hk₁ _ _ (N p hp).1, Nat.ne_of_lt (Heap.lt_size (N p hp).1), hideAll_none _ (List.mem_map_of_mem hp)⟩) B₂ (X₀.keeps st) (T.keeps st) (fun b hb => by
      rw [fsE] at hb
      rw [List.mem_singleton.mp hb]
      exact ⟨oL, es, ep, hLg, hLd⟩)) (fun fl s' hl => ?_) fun _ _ y => y
  obtain ⟨g', L', m', news', T', F', N', k⟩ := hl
  have nL₀ : h₀.get? L = none := kts_self F
  obtain ⟨sl, hs⟩ := T'.up hLg
  refine k ⟨hNs sl _ (F'.keep _ _ hs), fun b o e => F'.keep b o (T'.other b o (st b o e) (fun q => by
    rw [fsE] at q
    rw [List.mem_singleton.mp q, nL₀] at e
    cases e)), F.above⟩ fun p hp => ⟨(N' p hp).1, fun q => ?_, ?_⟩
  · have := (N' p hp).2.2; rw [q, hs] at this; cases this
  · cases q : h₀.get? p.1 with
    | none => rfl
    | some o =>
      obtain ⟨sl', hs'⟩ := T'.up (st _ _ q)
      have := (N' p hp).2.2
      rw [hs'] at this
      cases this
end
section
variable {prog : Program} {w : World} {A₀ : Around} {E : Value → Shared → Prop} {s' : Shared} {base g g₀ G : Heap} {outer : List Env} {L a e : Addr} {m : Str → Option Value} {name : Str} {scope : Scope} {cd : Value}
  {b₀ b₁ : Stmt} {suite suite₁ : List Stmt} {pos np pos₁ np₁ : Pos} {rest : List ExceptHandler} {Q : Flow → Shared → Prop} {news : List (Addr × Obj)} {KF : Frag}
  {p : Program} {loose : List Str} {mean : ExcName → Option Value} {mg mb : Str → Option Value} {x y : Str} {X T' T₁ : String}
/-- the first handler's type is another; the second's, a name of the module's, is its own -/
theorem caught_two (R : RaisedSN base G (envOf name scope L a cd :: outer) e (.type X) news s'.heap) (F : Fr g L G m) (K : Below A₀ base outer g) (hsm : G.UpToSlots s'.heap) (XB : KF.In base) (TB : Top p loose mean mg mb base)
    (D : KtsDicts (outer.filterMap (·.frame)) g) (T0 : KtsTurn (outer.filterMap (·.frame)) g₀ g)
    (ex : nsIn KF mainGlobals x = some none) (hv : bootBuiltins x = some (.type T')) (hn' : x ≠ "__name__")
    (hexc : isSubtype (.type T') (.type "BaseException") = pure true) (hnt : isSubtype (.type ((Manifest.find? T').elim "type" fun y => y.metatype)) (.type "tuple") = pure false) (hsub : isSubtype (.type X) (.type T') = pure false)
    (ex₁ : nsIn KF mainGlobals y = some (some (.type T₁)))
    (hexc₁ : isSubtype (.type T₁) (.type "BaseException") = pure true) (hnt₁ : isSubtype (.type ((Manifest.find? T₁).elim "type" fun y => y.metatype)) (.type "tuple") = pure false) (hsub₁ : isSubtype (.type X) (.type T₁) = pure true)
    (k : ∀ h' g', KtsTurn (outer.filterMap (·.frame)) g₀ g' → Fr g' L h' m → News g' L h' news → Below A₀ base outer g' → KF.In g' → Top p loose mean mg mb g' → KtsDicts (outer.filterMap (·.frame)) g' →
      wpAny (model prog w) ((A₀.deeper (envOf name scope L a cd)).mark (some (.ref e))) (execs (b₁ :: suite₁) (envOf name scope L a cd)) Q E { s' with heap := h' })
    (hk : scope.kind = .function := by rfl) (hx : (envOf name scope L a cd).kindOf x = some .globalImplicit := by rfl) (hd : (x == ("__debug__" : Str)) = false := by decide)
    (hx₁ : (envOf name scope L a cd).kindOf y = some .globalImplicit := by rfl) (hd₁ : (y == ("__debug__" : Str)) = false := by decide)
    (hE : PassesOwnAt (model prog w) ((A₀.deeper (envOf name scope L a cd)).mark (some (.ref e))) (A₀.deeper (envOf name scope L a cd)) (envOf name scope L a cd) E := by passes_own) :
    wpAny (model prog w) (A₀.deeper (envOf name scope L a cd)) (noteFrame (.ref e) (envOf name scope L a cd))
      (fun _ s₂ => wpAny (model prog w) (A₀.deeper (envOf name scope L a cd)) (setFlight (.ref e) none) (fun _ s₃ =>
        wpAny (model prog w) (A₀.deeper (envOf name scope L a cd)) (handleBy (.ref e) (envOf name scope L a cd) (.ExceptHandler (some (.Name x np)) none (b₀ :: suite) pos :: .ExceptHandler (some (.Name y np₁)) none (b₁ :: suite₁) pos₁ :: rest)) Q E s₃) E s₂) E s' := by
  obtain ⟨B, a0, hB, hBG, hl, hfl⟩ := R
  have hL : B.get? L = none := by
    obtain ⟨_, ⟨L', _, hf, hn', _⟩, _⟩ := hfl.2.2.1
    obtain rfl : L = L' := Option.some.inj hf
    exact hn'
  refine wpAny_looks_onW (Around.frames_deeper K.stack) rfl hfl fun h₄ hheld₄ hsm₄ => ?_
  refine wpAny_landsW hheld₄ fun h₅ hheld hsm₅' => ?_
  have hsm₅ := hsm₄.trans hsm₅'
  obtain ⟨g₅, T₅, F₅, K₅⟩ := kts_ground K F hBG hheld.1 (hsm.trans hsm₅)
  have X₅ : KF.In g₅ := XB.keeps K₅.stays
  have P₅ : TopRead p loose mg mb g₅ := topRead_of (TB.keeps K₅.stays)
  obtain ⟨ob, hob, hobc⟩ := hheld.there
  refine wpAny_handleBy_builtin (X := X) (T := T') (b := false) hexc hnt hsub (name_B F₅ X₅ P₅ ex hv hn' ⟨rfl, ⟨ob, hob, hobc⟩, ?_⟩ hk hx hd)
  refine wpAny_handleBy_builtin (X := X) (T := T₁) (b := true) hexc₁ hnt₁ hsub₁ (name_K F₅ X₅ P₅ ex₁ ⟨rfl, ⟨ob, hob, hobc⟩, ?_⟩ hk hx₁ hd₁)
  refine lands_againW hheld fun h₆ hfl₆ hsm₆ => ?_
  obtain ⟨g₆, T₆, F₆, K₆⟩ := kts_ground K F hBG hfl₆.1 ((hsm.trans hsm₅).trans hsm₆)
  have Nl : News g₆ L h₆ news := fun q hq => ⟨hfl₆.1 _ _ (hl q hq).1, (fun z => by have := (hl q hq).1; rw [z, hL] at this; cases this), T₆.none_ _ (kts_none F.keep (hl q hq).2.1)⟩
  have X₆ : KF.In g₆ := XB.keeps K₆.stays
  have P₆ : Top p loose mean mg mb g₆ := TB.keeps K₆.stays
  have D₆ : KtsDicts (outer.filterMap (·.frame)) g₆ := D.turn T₆
  exact wpAny_passesOwnAt hE (k h₆ g₆ (T0.trans T₆) F₆ Nl K₆ X₆ P₆ D₆)
end
end
section
namespace FF
theorem slot_bit_next : Slot "bytearray_iterator" "__next__" "bytearray_iterator.__next__" :=
  .of (owner := "bytearray_iterator") (n := "__next__") (by rw [typeLookup_type, builtinLookup_eq_fast]; kernel_rfl) (by decide +kernel) (by decide +kernel) (by decide +kernel)
    (by first | exact .inl (by decide +kernel) | exact .inr (by decide +kernel)) (by rw [isSubtype_type]; kernel_rfl)
theorem slot_bit_self : Slot "bytearray_iterator" "__iter__" "bytearray_iterator.__iter__" :=
  .of (owner := "bytearray_iterator") (n := "__iter__") (by rw [typeLookup_type, builtinLookup_eq_fast]; kernel_rfl) (by decide +kernel) (by decide +kernel) (by decide +kernel)
    (by first | exact .inl (by decide +kernel) | exact .inr (by decide +kernel)) (by rw [isSubtype_type]; kernel_rfl)
theorem slot_ba_iter : Slot "bytearray" "__iter__" "bytearray.__iter__" :=
  .of (owner := "bytearray") (n := "__iter__") (by rw [typeLookup_type, builtinLookup_eq_fast]; kernel_rfl) (by decide +kernel) (by decide +kernel) (by decide +kernel)
    (by first | exact .inl (by decide +kernel) | exact .inr (by decide +kernel)) (by rw [isSubtype_type]; kernel_rfl)
theorem entry_bit_next : entryFor table "bytearray_iterator.__next__" = some Builtin.«bytearray_iterator.__next__» := entryFor_of_tree (by kernel_rfl)
theorem entry_bit_self : entryFor table "bytearray_iterator.__iter__" = some Builtin.«dict_keyiterator.__iter__» := Mine.alias_tree (id' := "dict_keyiterator.__iter__") (by kernel_rfl) (by decide +kernel) (by rw [PySem.W.S.canonicalZ_eq]; decide +kernel) (by kernel_rfl)
theorem entry_ba_iter : entryFor table "bytearray.__iter__" = some Builtin.«bytearray.__iter__» := entryFor_of_tree (by kernel_rfl)
theorem args_bit_next (a : Value) : argsOk "bytearray_iterator.__next__" ⟨[a], []⟩ := by unfold argsOk; rw [PySem.W.S.signatureZ_eq]; kernel_rfl
theorem args_bit_self (a : Value) : argsOk "bytearray_iterator.__iter__" ⟨[a], []⟩ := by unfold argsOk; rw [PySem.W.S.signatureZ_eq]; kernel_rfl
theorem args_ba_iter (a : Value) : argsOk "bytearray.__iter__" ⟨[a], []⟩ := by unfold argsOk; rw [PySem.W.S.signatureZ_eq]; kernel_rfl
theorem len_ba : typeLookup (.type "bytearray") "__len__" = pure (some (.builtin "bytearray.__len__")) := by rw [typeLookup_type, builtinLookup_eq_fast]; kernel_rfl
end FF
def IsBaIter (h : Heap) (I D : Addr) (i : Nat) : Prop := ∃ o, h.get? I = some o ∧ o.cls = .type "bytearray_iterator" ∧ o.data = .fields #[.ref D, .int i 0]
def BaSt (I D : Addr) (b : Array UInt8) (i : Nat) (h : Heap) : Prop := IsBaIter h I D i ∧ h.get? D = some (baObj b)
section
variable {prog : Program} {w : World} {A : Around} {E : Value → Shared → Prop} {s : Shared} {I D : Addr} {b : Array UInt8} {i : Nat}
theorem baIter_type (y : IsBaIter s.heap I D i) : s.TypeIs (.ref I) "bytearray_iterator" := let ⟨o, ho, hc, _⟩ := y; ⟨o, ho, hc⟩
theorem pyIter_ba {Q : Value → Shared → Prop} (hd : s.heap.get? D = some (baObj b)) (hQ : Q (.ref s.heap.objs.size) { s with heap := s.heap.push { cls := .type "bytearray_iterator", data := .fields #[.ref D, .int 0 0] } }) : wpAny (model prog w) A (pyIter (.ref D)) Q E s := by
  have hT : s.TypeIs (.ref D) "bytearray" := ⟨_, hd, rfl⟩
  refine wpAny_pyIter_slot hT FF.slot_ba_iter (wpAny_call_entry FF.slot_ba_iter hT FF.entry_ba_iter ?_ (FF.args_ba_iter _))
  show wpAny _ _ (do ret (← newFields "bytearray_iterator" [.ref D, rawInt 0])) _ _ s
  exact wpAny_bind (wpAny_newObj_type (wpAny_pure ⟨_, rfl, "bytearray_iterator", _, ⟨_, Heap.get?_push_size _ rfl, rfl⟩, FF.slot_bit_next.lookup, hQ⟩))
theorem pyIter_bit {Q : Value → Shared → Prop} (hit : IsBaIter s.heap I D i) (h : Q (.ref I) s) : wpAny (model prog w) A (pyIter (.ref I)) Q E s := by
  refine wpAny_pyIter_slot (baIter_type hit) FF.slot_bit_self (wpAny_call_entry FF.slot_bit_self (baIter_type hit) FF.entry_bit_self ?_ (FF.args_bit_self _))
  show wpAny _ _ (ret (.ref I)) _ _ s
  exact wpAny_pure ⟨_, rfl, "bytearray_iterator", _, baIter_type hit, FF.slot_bit_next.lookup, h⟩
theorem bit_item {c : UInt8} {Q : Option Value → Shared → Prop} (hne : D ≠ I) (hst : BaSt I D b i s.heap) (hx : b[i]? = some c)
    (hQ : ∀ h', BaSt I D b (i + 1) h' → Heap.SameBut I s.heap h' → Q (some (.int (c.toNat : Int) s.toks)) { s with heap := h', toks := s.toks + 1 }) : wpAny (model prog w) A (pyNext (.ref I)) Q E s := by
  obtain ⟨hit, hD⟩ := hst
  obtain ⟨o, ho, hc, hd⟩ := id hit
  unfold pyNext
  refine wpAny_bind (wpAny_attempt (wpAny_callSpecial?_slot (name := PySem.Str.ofString "__next__") (baIter_type hit) FF.slot_bit_next
    (wpAny_call_entry FF.slot_bit_next (baIter_type hit) FF.entry_bit_next ?_ (FF.args_bit_next _))))
  show wpAny _ _ (field (.ref I) 0 >>= _) _ _ s
  refine wpAny_bind (wpAny_field ho hd (x := .ref D) rfl ?_)
  show wpAny _ _ (load D >>= _) _ _ s
  refine wpAny_bind (wpAny_load hD ?_)
  show wpAny _ _ (field (.ref I) 1 >>= _) _ _ s
  refine wpAny_bind (wpAny_field ho hd (x := .int i 0) rfl ?_)
  simp only [Int.toNat_natCast, hx]
  refine wpAny_bind (wpAny_setField ho hd (by simp) (wpAny_bind (wpAny_mkInt (wpAny_pure ⟨_, rfl, wpAny_pure (hQ _ ⟨?_, ?_⟩ (Heap.SameBut.update ..))⟩))))
  · exact ⟨_, Heap.get?_update_self _ ho (Obj.isFreed_of_fields (Obj.data_mapFields hd _)), (Obj.cls_mapFields ..).trans hc, by
      rw [Obj.data_mapFields hd]; simp [rawInt]⟩
  · exact (Heap.get?_update_other _ _ hne.symm).trans hD
theorem bit_end {Q : Option Value → Shared → Prop} (hh : A.handled = none) (hst : BaSt I D b i s.heap) (hx : b[i]? = none)
    (hQ : ∀ h', Heap.ExtBut I s.heap h' → Q none { s with heap := h' }) : wpAny (model prog w) A (pyNext (.ref I)) Q E s := by
  obtain ⟨hit, hD⟩ := hst
  obtain ⟨o, ho, hc, hd⟩ := id hit
  unfold pyNext
  refine wpAny_bind (wpAny_attempt (wpAny_callSpecial?_slot (name := PySem.Str.ofString "__next__") (baIter_type hit) FF.slot_bit_next
    (wpAny_call_entry FF.slot_bit_next (baIter_type hit) FF.entry_bit_next ?_ (FF.args_bit_next _))))
  show wpAny _ _ (field (.ref I) 0 >>= _) _ _ s
  refine wpAny_bind (wpAny_field ho hd (x := .ref D) rfl ?_)
  show wpAny _ _ (load D >>= _) _ _ s
  refine wpAny_bind (wpAny_load hD ?_)
  show wpAny _ _ (field (.ref I) 1 >>= _) _ _ s
  refine wpAny_bind (wpAny_field ho hd (x := .int i 0) rfl ?_)
  simp only [Int.toNat_natCast, hx]
  refine wpAny_bind (wpAny_rule (wpAny_bind (wpAny_setField ho hd (by simp) ?_)))
  refine wpAny_bind (wpAny_letGo ?_)
  show wpAny _ _ (newExc (.type "StopIteration") [] >>= _) _ _ _
  refine wpAny_bind ?_
  simp only [newExc, newTuple]
  refine wpAny_bind (wpAny_newObj_type ?_ (by size_fits))
  refine wpAny_bind (m := firstArgMember _ _) (wpAny_of_eq (a := Value.none) (by first | rfl | (simp only [firstArgMember]; rfl)) ?_)
  refine wpAny_newObj_type ?_ (by size_fits)
  simp only [raiseNew]
  refine wpAny_bind (wpAny_handled ?_)
  rw [show A.in1.handled = none from hh]
  refine wpAny_bind (wpAny_pure (wpAny_throw ?_))
  refine wpAny_bind (wpAny_isInstance (T := "StopIteration") (b := true) ⟨_, Heap.get?_push_size _ rfl, rfl⟩ isSubtype_stop ?_)
  exact wpAny_pure (hQ _ (((Heap.SameBut.update ..).extBut.push _).push _))
theorem walks_ba (hh : A.handled = none) (hne : D ≠ I) : Walks prog w A I [I, D] [I] b.size (fun i v => ∃ c u, b[i]? = some c ∧ v = .int (c.toNat : Int) u) (fun i h => BaSt I D b i h) where
  sub := fun _ hb => by simp at hb; simp [hb]
  frame := fun _ _ _ st hk => ⟨let ⟨o, ho, r⟩ := st.1; ⟨o, hk I (by simp) o ho, r⟩, hk D (by simp) _ st.2⟩
  item := fun i s Q E hi st hQ => by
    refine bit_item hne st (c := b[i]) (by simp [hi]) fun h' hit' hs' => ?_
    exact hQ _ h' (s.toks + 1) ⟨_, _, by simp [hi], rfl⟩ hit' fun b o hb e => hs'.extBut b o (fun h => hb (by simp [h])) e
  done := fun s Q E st hQ => bit_end hh st (by simp) fun h' he' => hQ h' s.toks fun b o hb e => he' b o (fun h => hb (by simp [h])) e
  self := fun _ _ _ _ st hQ => pyIter_bit st.1 hQ
theorem hint_ba {Q : Bool → Shared → Prop} (hd : s.heap.get? D = some (baObj b)) (h : Q false s) : wpAny (model prog w) A (Builtin.List.listLengthHint (.ref D)) Q E s := by
  obtain ⟨hp, g, dr, tk, os⟩ := s
  dsimp only at hd
  have L1 := looks_baType (M := model prog w) hd
  have L2 := looks_baSpecial (M := model prog w) hd FF.len_ba
  have L3 : Looks (model prog w) hp (isInstance (.ref D) (.type "bytearray")) true := L1.andThen (Looks.of_pure FF.sub_ba)
  have e1 : splitId "bytearray.__len__" = some ("bytearray", "__len__") := by decide +kernel
  unfold Builtin.List.listLengthHint
  repeat (first | simp only [e1] | lk)
  exact h
end
end
section
section
variable {prog : Program} {w : World} {A : Around} {E : Value → Shared → Prop} {s : Shared} {D : Addr} {b : Array UInt8}
def octOf (b : Array UInt8) : Nat → Value → Prop := fun i v => ∃ c u, b[i]? = some c ∧ v = .int (c.toNat : Int) u
theorem extend_ba {R : Result → Shared → Prop} (hh : A.handled = none) (hD : s.heap.get? D = some (baObj b)) (hlen : b.size ≤ 64) (S : Addr) (res : Value) (c₀ : Nat)
    (hS : s.heap.get? S = some { cls := .type "list", data := .seq #[] c₀ })
    (hR : ∀ h' tk acc' c', (∀ a o, a ≠ S → s.heap.get? a = some o → h'.get? a = some o) → h'.get? S = some { cls := .type "list", dict := none, data := .seq acc' c', slots := #[] } →
      ItemsOf (octOf b) acc' b.size → R (.ok (.ret res)) { s with heap := h', toks := tk }) :
    wpAny (model prog w) A.in1 (Builtin.List.listExtendWith (.ref S) (.ref D) res)
      (fun fin s' => match fin with | .done f => R (.ok f) s' | .again c' => c'.quiet = true ∧ codeAny (model prog w) A c' R s') (fun e s' => R (.error e) s') s := by
  have hSD : S ≠ D := fun e => by rw [e, hD] at hS; simp at hS
  have hDI : D ≠ s.heap.objs.size := Nat.ne_of_lt (Heap.lt_size hD)
  have hSI : S ≠ s.heap.objs.size := Nat.ne_of_lt (Heap.lt_size hS)
  have hSf : S ∉ [s.heap.objs.size, D] := fun hm => by
    rcases List.mem_cons.mp hm with e | hm
    · exact hSI e
    · exact hSD (List.mem_singleton.mp hm)
  have W := (walks_ba (prog := prog) (w := w) (A := A.in1) (b := b) hh hDI).toS
  have key : ∀ (h : Heap) (c₁ tk : Nat), BaSt s.heap.objs.size D b 0 h → (∀ a o, a ≠ S → s.heap.get? a = some o → h.get? a = some o) →
      h.get? S = some { cls := .type "list", data := .seq #[] c₁ } → codeAny (model prog w) A (.builtin "list.extend.loop" ⟨[.ref S, .ref s.heap.objs.size, res], []⟩) R { s with heap := h, toks := tk } := by
    intro h c₁ tk hit hk hS₁
    refine codeAny_extend_loopS W (by rw [sizeLine_eq]; omega) S hSf res b.size 0 _ #[] c₁ rfl (Nat.zero_le _) hit hS₁ (ItemsOf.nil _) fun s' acc' c' hm hS' hacc => ?_
    rw [Moved.eq_with hm]
    refine hR s'.heap s'.toks acc' c' (fun a o hb e => hm.heap a o (fun hmem => ?_) (hk a o hb e)) hS' hacc
    rcases List.mem_cons.mp hmem with e' | hmem
    · exact hb e'
    · exact absurd (Heap.lt_size e) (by rw [List.mem_singleton.mp hmem]; exact Nat.lt_irrefl _)
  unfold Builtin.List.listExtendWith
  refine wpAny_bind (wpAny_typeOf (T := "bytearray") ⟨_, hD, rfl⟩ ?_)
  have h1 : Builtin.List.listSameRef (.ref S) (.ref D) = false := by simp [Builtin.List.listSameRef, hSD]
  have h2 : (Value.type "bytearray" == Value.type "list") = false := by decide
  have h3 : (Value.type "bytearray" == Value.type "tuple") = false := by decide
  simp only [h1, h2, h3, Bool.or_false, Bool.false_eq_true, if_false]
  refine wpAny_bind (pyIter_ba hD ?_)
  refine wpAny_bind (wpAny_holding (hint_ba (Heap.get?_push_of_some _ hD) ?_))
  have hS₁ := Heap.get?_push_of_some { cls := .type "bytearray_iterator", data := .fields #[.ref D, .int 0 0] } hS
  refine wpAny_ite_split (fun hab => absurd hab (by decide)) (fun _ => wpAny_pure ⟨plainId_quiet F.plain_extend_loop _, key _ c₀ _ ?_ (fun a o _ e => Heap.get?_push_of_some _ e) hS₁⟩)
  exact ⟨⟨_, Heap.get?_push_size _ rfl, rfl, rfl⟩, Heap.get?_push_of_some _ hD⟩
theorem list_init_ba {R : Result → Shared → Prop} (hh : A.handled = none) (hD : s.heap.get? D = some (baObj b)) (hlen : b.size ≤ 64) (S : Addr)
    (hS : s.heap.get? S = some { cls := .type "list", data := .seq #[] })
    (hR : ∀ h' tk acc' c', (∀ a o, a ≠ S → s.heap.get? a = some o → h'.get? a = some o) → h'.get? S = some { cls := .type "list", dict := none, data := .seq acc' c', slots := #[] } →
      ItemsOf (octOf b) acc' b.size → R (.ok (.ret .none)) { s with heap := h', toks := tk }) :
    wpAny (model prog w) A.in1 (Builtin.«list.__init__» ⟨[.ref S, .ref D], []⟩)
      (fun fin s' => match fin with | .done f => R (.ok f) s' | .again c' => c'.quiet = true ∧ codeAny (model prog w) A c' R s') (fun e s' => R (.error e) s') s := by
  have hSD : S ≠ D := fun e => by rw [e, hD] at hS; simp at hS
  show wpAny _ _ (do let old ← Builtin.List.listItems (.ref S); Builtin.List.listUpdate (.ref S) (fun _ => #[]); letGo old.toList.reverse; Builtin.List.listExtendWith (.ref S) (.ref D) .none) _ _ s
  refine wpAny_bind ?_
  unfold Builtin.List.listItems
  refine wpAny_bind (wpAny_seqItems hS rfl (wpAny_pure ?_))
  show wpAny _ _ (updateSeq S (fun _ => #[]) >>= fun _ => letGo (#[] : Array Value).toList.reverse >>= fun _ => Builtin.List.listExtendWith (.ref S) (.ref D) .none) _ _ s
  refine wpAny_bind (wpAny_updateSeq hS rfl ?_)
  have hS₂ := Heap.get?_update_self (Obj.mapSeq (fun _ => (#[] : Array Value))) hS rfl
  have oth : ∀ a o, a ≠ S → s.heap.get? a = some o → (s.heap.update S (Obj.mapSeq (fun _ => (#[] : Array Value)))).get? a = some o :=
    fun a o hb e => (Heap.get?_update_other _ _ (Ne.symm hb)).trans e
  refine wpAny_bind (wpAny_letGo ?_)
  refine extend_ba hh (oth D _ (Ne.symm hSD) hD) hlen S .none _ hS₂ fun h' tk acc' c' hk hS' hacc => ?_
  exact hR h' tk acc' c' (fun a o hb e => hk a o hb (oth a o hb e)) hS' hacc
theorem call_list_ba {Q : Value → Shared → Prop} (hh : A.handled = none) (hD : s.heap.get? D = some (baObj b)) (hlen : b.size ≤ 64)
    (hQ : ∀ h' tk acc' c', (∀ a o, s.heap.get? a = some o → h'.get? a = some o) →
      h'.get? s.heap.objs.size = some { cls := .type "list", dict := none, data := .seq acc' c', slots := #[] } → ItemsOf (octOf b) acc' b.size → Q (.ref s.heap.objs.size) { s with heap := h', toks := tk }) :
    wpAny (model prog w) A (call (.type "list") [.ref D]) Q E s := by
  refine callType_codes (Q₁ := fun obj s₁ => obj = .ref s.heap.objs.size ∧ s₁ = { s with heap := s.heap.push { cls := .type "list", data := .seq #[] } }) F.called_list (F.typeCall_list_1 _) F.entry_list_init
    (code_list_new _ ⟨rfl, rfl⟩) fun obj s₁ h₁ => ?_
  obtain ⟨rfl, rfl⟩ := h₁
  have hS : (s.heap.push { cls := .type "list", data := .seq #[] }).get? s.heap.objs.size = some { cls := .type "list", data := .seq #[] } := Heap.get?_push_size _ rfl
  refine ⟨⟨_, hS, rfl⟩, F.args_list_init_2 _ _, list_init_ba (A := A.in1) hh (Heap.get?_push_of_some _ hD) hlen _ hS fun h' tk acc' c' hk hS' hacc => ?_⟩
  exact ⟨rfl, hQ h' tk acc' c' (fun a o e => hk a o (Nat.ne_of_lt (Heap.lt_size e)) (Heap.get?_push_of_some _ e)) hS' hacc⟩
end
end
theorem kw7 : True := by
  w_top off
  k_with "mine name" => (first | (name_kind "local"; refine' nameX_L (by k_asm) (by exact rfl) ?_ (by kernel_rfl) (by kernel_rfl) (by kernel_rfl); k_whole) | (name_kind "globalImplicit"; refine' nameX_K (by k_asm) (by k_asm) (by k_asm) (by k_is) ?_ (by kernel_rfl) (by kernel_rfl) (by kernel_rfl); k_whole) | (name_kind "globalImplicit"; refine' nameX_B (by k_asm) (by k_asm) (by k_asm) (by k_is) (by boot_fast) (by decide) ?_ (by kernel_rfl) (by kernel_rfl) (by kernel_rfl); k_whole))
  k_with "m eval Name" => (k_here; k_dflt k_extra "mine name")
  k_with "k_room" => (ktr_room)
  k_with "k_units" => (ktr_units)
  k_with "m getMethod ref" => (k_here; (with_reducible show wpAny _ _ (getMethod (Value.ref _) (PySem.Str.ofString "unpack_from") _) _ _ _); (refine' method_unpack ?zzhP ?_; (case zzhP => exact (Frag.In.keeps (by k_asm) (Fr.keep (by k_asm))) _ _ (by assumption)); k_whole))
  k_with "m call builtin:_struct.Struct.unpack_from" => (k_here; ((focus (refine' unpack_call ?zzhh ?zzF ?zzN ?zzhP ?zzhd ?zzPK ?zzh0 ?zzh1 ?zzhb ?zzhw (fun hin9 T'9 t'9 h'9 tk'9 F'9 N'9 l19 => ?_) (fun hin9 h'9 tk'9 e'9 x'9 => ?_); (case zzhh => rfl); (case zzF => k_asm); (case zzN => k_asm); (case zzhP => exact (Frag.In.keeps (by k_asm) (Fr.keep (by k_asm))) _ _ (by assumption)); (case zzhd => exact News.get (by k_asm) (by k_mem)); (case zzPK => assumption); (case zzh0 => assumption); (case zzh1 => omega); (case zzhb => assumption); (case zzhw => assumption); (all_goals ((try k_lt l19))); rotate_left))))
  k_with "m leaving ref" => (k_here; (first | (refine' leave_onX rfl ?zzk1 ?zzk2 ?zzk3 ?zzk4 ?_; (case zzk3 => assumption); (case zzk1 => assumption); (case zzk4 => assumption); (case zzk2 => assumption); k_whole; intro h' R' U'; (try dsimp only at R' U' ⊢)) | (refine' leave_newN ?zzk1 ?zzk0 ?zzk2 ?zzk3 ?_; (case zzk0 => assumption); (case zzk1 => assumption); (case zzk2 => assumption); (case zzk3 => k_asm); k_whole; intro h' R' U'; (try dsimp only at R' U' ⊢)) | (refine' leave_raiseN ?zzk1 ?zzk0 ?zzk2 ?zzk3 ?_; (case zzk0 => first | assumption | (exact Heap.MadeExc.of (by assumption))); (case zzk1 => assumption); (case zzk2 => assumption); (case zzk3 => k_asm); k_whole; intro h' R' U'; (try dsimp only at R' U' ⊢))))
  trivial
section
theorem get_encode {w : World} {mean : ExcName → Option Value} {mg mb : Str → Option Value} {p : Program} {loose : List Str} {P d : Addr} {fmt b : Array UInt8} {tb t : Tok} {k : Nat} {n : Int} {news : List (Addr × Obj)}
   (hP : (hd.heap_1 w.params).lookup P = some (packObj fmt tb)) (PK : Packs fmt (wdK k) (fun n t => (decode k n).val t)) (h0 : 0 ≤ n) (h1 : n < 2 ^ 62) (hb : b.size ≤ 64) (hw : wdK k ≤ 8) (hm : (d, baObj b) ∈ news) :
   Calls w mean mg mb p loose 1 8 (.ref 227) [.ref P, .ref d, .int n t] news (SaysRet news (rd k b n)) := by
  unfold Calls
  k_fill
  intro dp un gd cn cs a ccd cl outer A₀ base h₀ L m s Q E B F X N T hf hd hu hret
  refine wpAny_call ?_
  k_dflt cell_enter
  k_steps
  · have e : rd k b n = .fin := if_neg (by assumption)
    rw [e] at hret
    exact hret _ _ _ _ (by assumption) (by assumption) (by assumption)
  · have e : rd k b n = decode k _ := if_pos (by assumption)
    rw [e] at hret
    exact hret.ret (decode_isVal _ _) _ _ _ (by assumption) (cb_drop (by assumption) fun _ h => .tail _ h)
end
theorem kw8 : True := by
  w_top off
  k_with "m getAttr ref" => (k_here; (first | (refine' cls_val ?zzk1 ?zzk2 ?zzk3 ?zzk4 ?zzk5 ?zzk6 ?_; (case zzk1 => k_asm); (case zzk2 => k_asm); (case zzk3 => exact Flag.ty (by assumption)); (case zzk4 => exact Flag.rd (by assumption)); (case zzk5 => first | (exact Flag.mn (by assumption)) | (exact Flag.mx (by assumption)) | (exact Flag.pkt (by assumption)) | assumption); (case zzk6 => rfl); k_whole) | (refine' cls_pyt ?zzX ?zzr ?zza ?zzb ?zzT ?_; (case zza => exact Flag.pyt (by assumption)); (case zzX => exact (Frag.In.keeps (by k_asm) (Fr.keep (by k_asm)))); (case zzr => exact Flag.rd (by assumption)); (case zzb => exact Flag.pym (by assumption)); (case zzT => first | exact FF.mt_int | exact FF.mt_bool | assumption); k_whole)))
  trivial
section
abbrev OkRet (c : Prop) (news : List (Addr × Obj)) (Q E : Value → Shared → Prop) (base h₀ : Heap) (L : Addr) (m : Str → Option Value) (fr : List Env) (s : Shared) : Prop :=
  (c → Rets (fun _ => .none) Q h₀ L m news s) ∧ (¬ c → Raises "TypeError" E base h₀ L m fr news s)
theorem enforce_int {w : World} {mean : ExcName → Option Value} {mg mb : Str → Option Value} {p : Program} {loose : List Str} {C : Addr} {lo hi : Int} {t1 t2 t : Tok} {py pk : Value} {nm : Str} {n : Int} {news : List (Addr × Obj)}
   (hF : Flag (hd.heap_1 w.params) C (.int lo t1) (.int hi t2) py pk nm) (hnm : nm.length ≤ 100) (h0 : -(2 ^ 64 + 2) ≤ n) (h1 : n ≤ 2 ^ 64 + 2) :
   Calls w mean mg mb p loose 1 8 (.ref 220) [.int n t, .ref C] news (OkRet (lo ≤ n ∧ n ≤ hi) news) := by
  unfold Calls
  k_fill
  intro dp un gd cn cs a ccd cl outer A₀ base h₀ L m s Q E B F X N T hf hd hu hret
  obtain ⟨tn, hnam⟩ := hF.nam
  refine wpAny_call ?_
  k_dflt cell_enter
  k_steps
  · exact hret.1 (by first | omega | (simp only [decide_eq_true_eq] at *; omega)) 0 _ _ (by assumption) (by assumption)
  all_goals exact hret.2 (by first | omega | (simp only [decide_eq_true_eq, decide_eq_false_iff_not] at *; omega)) _ _ _ _ (by assumption) (by assumption) (raisedSN_weak (by assumption) fun _ h => h)
end
theorem kw9 : True := by
  w_top off
  k_with "m compareOp LtE bool int" => (refine le_bool_int ?_)
  k_with "m compareOp LtE int bool" => (refine le_int_bool ?_)
  trivial
section
section
variable {w : World} {mean : ExcName → Option Value} {mg mb : Str → Option Value} {p : Program} {loose : List Str} {t : Tok} {n : Int} {news : List (Addr × Obj)}
theorem enforce_k {C : Addr} {k : Nat} (hK : KindAt w C k) (hk : 1 ≤ k) (h0 : -(2 ^ 64 + 2) ≤ n) (h1 : n ≤ 2 ^ 64 + 2) : Calls w mean mg mb p loose 1 8 (.ref 220) [.int n t, .ref C] news (OkRet (loK k ≤ n ∧ n ≤ hiK k) news) := by
  obtain ⟨⟨P, nm, t1, t2, hl, hF, _⟩⟩ := hK
  have hk0 : ¬ k = 0 := by omega
  simp only [loV, hiV, if_neg hk0] at hF
  exact enforce_int hF hl h0 h1
theorem enforce_U (h0 : -(2 ^ 64 + 2) ≤ n) (h1 : n ≤ 2 ^ 64 + 2) : Calls w mean mg mb p loose 1 8 (.ref 220) [.int n t, .ref 199] news (OkRet (0 ≤ n ∧ n ≤ 4294967295) news) := enforce_k (kind_199 w) (by decide) h0 h1
theorem enforce_V (h0 : -(2 ^ 64 + 2) ≤ n) (h1 : n ≤ 2 ^ 64 + 2) : Calls w mean mg mb p loose 1 8 (.ref 220) [.int n t, .ref 211] news (OkRet (0 ≤ n ∧ n ≤ 65535) news) := enforce_k (kind_211 w) (by decide) h0 h1

theorem enforce_bb {b : Bool} : Calls w mean mg mb p loose 1 8 (.ref 220) [.bool b, .ref 61] news (OkRet True news) := by
  unfold Calls
  k_fill
  intro dp un gd cn cs a ccd cl outer A₀ base h₀ L m s Q E B F X N T hf hd hu hret
  refine wpAny_call ?_
  cases b
  · k_dflt cell_enter
    k_steps
    exact hret.1 trivial 0 _ _ (by assumption) (by assumption)
  · k_dflt cell_enter
    k_steps
    exact hret.1 trivial 0 _ _ (by assumption) (by assumption)
theorem enforce_bi (hn : n = -1 ∨ n = 2) : Calls w mean mg mb p loose 1 8 (.ref 220) [.int n t, .ref 61] news (OkRet False news) := by
  unfold Calls
  k_fill
  intro dp un gd cn cs a ccd cl outer A₀ base h₀ L m s Q E B F X N T hf hd hu hret
  refine wpAny_call ?_
  rcases hn with rfl | rfl
  · k_dflt cell_enter
    k_steps
    all_goals exact hret.2 (by simp) _ _ _ _ (by assumption) (by assumption) (raisedSN_weak (by assumption) fun _ h => h)
  · k_dflt cell_enter
    k_steps
    all_goals exact hret.2 (by simp) _ _ _ _ (by assumption) (by assumption) (raisedSN_weak (by assumption) fun _ h => h)
theorem get_encode_U {d : Addr} {b : Array UInt8} (h0 : 0 ≤ n) (h1 : n < 2 ^ 62) (hb : b.size ≤ 64) (hm : (d, baObj b) ∈ news) :
   Calls w mean mg mb p loose 1 8 (.ref 227) [.ref 46, .ref d, .int n t] news (SaysRet news (rd 3 b n)) :=
  get_encode (k := 3) (fmt := #[60, 73]) (tb := 335) (by
    refine fill ?_
    k_fill
    intro _ _
    k_is) (packs_uint32.of (by funext n t; simp [decode, Ans.val, wdK])) h0 h1 hb (by decide) hm
section
variable {Q E : Value → Shared → Prop} {base h₀ : Heap} {L : Addr} {m : Str → Option Value} {fr : List Env} {s : Shared} {k : Nat} {b : Array UInt8}
theorem saysRet_int (hk : ¬ k = 0) (hn : 0 ≤ n) (hv : ∀ i, rd k b n = .int i → loK k ≤ i ∧ i ≤ hiK k → Rets (fun t => .int i t) Q h₀ L m news s) (hf : rd k b n = .fin → Raises "struct.error" E base h₀ L m fr news s) : SaysRet news (rd k b n) Q E base h₀ L m fr s := by
  rcases rd_shape (k := k) (b := b) (n := n) hk with ⟨i, e⟩ | e
  · have hb := rd_bounds hn e
    rw [e] at hv ⊢
    exact hv i rfl hb
  · rw [e] at hf ⊢
    exact hf rfl
theorem saysRet_bool (hv : ∀ i, rd 0 b n = .bool i → Rets (fun _ => .bool i) Q h₀ L m news s) (hf : rd 0 b n = .fin → Raises "struct.error" E base h₀ L m fr news s) : SaysRet news (rd 0 b n) Q E base h₀ L m fr s := by
  unfold rd at hv hf ⊢
  split
  · rename_i h
    rw [if_pos h] at hv
    exact hv _ rfl
  · rename_i h
    rw [if_neg h] at hf
    exact hf rfl
end
end
end
theorem kw10 : True := by
  w_top off
  k_with "mine ra" => ((case zzkB => k_asm); (case zzkF => k_asm); (case zzkX => k_asm); (case zzkN => k_asm); (case zzkT => k_asm); (case zzkf => first | exact rfl | assumption); (case zzkd => ktr_room); (case zzku => ktr_units))
  k_with "m call ref" => (k_here; (first | ((with_reducible show wpAny _ _ (call (Value.ref 220) [Value.int _ _, Value.ref 199]) _ _ _); (focus (k_dflt (refine' (enforce_U ?zzh0 ?zzh1).use ?zzkB ?zzkF ?zzkX ?zzkN ?zzkT ?zzkf ?zzkd ?zzku ⟨(fun hc9 t'9 h'9 tk'9 F'9 N'9 => ?_), (fun hc9 e'9 g'9 h'9 tk'9 FG'9 U'9 R'9 => ?_)⟩); (k_extra "mine ra"); (case zzh0 => first | assumption | omega); (case zzh1 => first | assumption | omega); (all_goals ((try (exfalso; omega)))); rotate_left))) | ((with_reducible show wpAny _ _ (call (Value.ref 220) [Value.int _ _, Value.ref 211]) _ _ _); (focus (k_dflt (refine' (enforce_V ?zzh0 ?zzh1).use ?zzkB ?zzkF ?zzkX ?zzkN ?zzkT ?zzkf ?zzkd ?zzku ⟨(fun hc9 t'9 h'9 tk'9 F'9 N'9 => ?_), (fun hc9 e'9 g'9 h'9 tk'9 FG'9 U'9 R'9 => ?_)⟩); (k_extra "mine ra"); (case zzh0 => first | assumption | omega); (case zzh1 => first | assumption | omega); (all_goals ((try (exfalso; omega)))); rotate_left))) | ((with_reducible show wpAny _ _ (call (Value.ref 220) [Value.int _ _, Value.ref _]) _ _ _); (focus (k_dflt (refine' (enforce_k ?zzhK ?zzhk ?zzh0 ?zzh1).use ?zzkB ?zzkF ?zzkX ?zzkN ?zzkT ?zzkf ?zzkd ?zzku ⟨(fun hc9 t'9 h'9 tk'9 F'9 N'9 => ?_), (fun hc9 e'9 g'9 h'9 tk'9 FG'9 U'9 R'9 => ?_)⟩; (case zzhK => assumption); (case zzhk => assumption)); (k_extra "mine ra"); (case zzh0 => first | assumption | omega); (case zzh1 => first | assumption | omega); (all_goals ((try (exfalso; omega)))); rotate_left)))))
  k_with "m getMethod ref" => (k_here; (with_reducible show wpAny _ _ (getMethod (Value.ref _) (PySem.Str.ofString "py_type") _) _ _ _); (refine' method_of_cls ?zzF ?zzX ?zzg ?_; (case zzF => k_asm); (case zzX => k_asm); (case zzg => exact Flag.sp (by assumption)); k_whole))
  k_with "m call ref" => (k_here; (first | ((with_reducible show wpAny _ _ (call (Value.ref 227) [Value.ref 46, Value.ref _, Value.int _ _]) _ _ _); k_dflt (refine' (get_encode_U ?zzh0 ?zzh1 ?zzhb ?zzhm).use ?zzkB ?zzkF ?zzkX ?zzkN ?zzkT ?zzkf ?zzkd ?zzku ?_); (case zzh0 => first | assumption | omega); (case zzh1 => first | assumption | omega); (case zzhb => assumption); (case zzhm => k_mem); (k_extra "mine ra"); (first | ((focus (refine saysRet_bool (fun i9 hv9 t'9 h'9 tk'9 F'9 N'9 => ?_) (fun hv9 e'9 g'9 h'9 tk'9 FG'9 U'9 R'9 => ?_); rotate_left))) | ((focus (refine saysRet_int ?zzhk ?zzhn (fun i9 hv9 hi9 t'9 h'9 tk'9 F'9 N'9 => ?_) (fun hv9 e'9 g'9 h'9 tk'9 FG'9 U'9 R'9 => ?_); (case zzhk => first | assumption | omega | decide); (case zzhn => first | assumption | omega); (all_goals ((try simp only [loK, hiK] at hi9))); rotate_left))))) | ((with_reducible show wpAny _ _ (call (Value.ref 227) [Value.ref _, Value.ref _, Value.int _ _]) _ _ _); k_dflt (refine' (get_encode ?zzhP ?zzPK ?zzh0 ?zzh1 ?zzhb ?zzhw ?zzhm).use ?zzkB ?zzkF ?zzkX ?zzkN ?zzkT ?zzkf ?zzkd ?zzku ?_; (case zzhP => assumption); (case zzPK => assumption); (case zzhw => assumption)); (case zzh0 => first | assumption | omega); (case zzh1 => first | assumption | omega); (case zzhb => assumption); (case zzhm => k_mem); (k_extra "mine ra"); (first | ((focus (refine saysRet_bool (fun i9 hv9 t'9 h'9 tk'9 F'9 N'9 => ?_) (fun hv9 e'9 g'9 h'9 tk'9 FG'9 U'9 R'9 => ?_); rotate_left))) | ((focus (refine saysRet_int ?zzhk ?zzhn (fun i9 hv9 hi9 t'9 h'9 tk'9 F'9 N'9 => ?_) (fun hv9 e'9 g'9 h'9 tk'9 FG'9 U'9 R'9 => ?_); (case zzhk => first | assumption | omega | decide); (case zzhn => first | assumption | omega); (all_goals ((try simp only [loK, hiK] at hi9))); rotate_left)))))))
  trivial
section
def reads (k : Nat) (b : Array UInt8) (off : Int) : Ans := if 0 ≤ off ∧ off ≤ 4294967295 then rd k b off else .typ
abbrev tabObj' (dx d : Addr) (pos : Int) (tp : Tok) : Obj := ⟨.ref 309, some dx, .plain, #[some (.ref d), some (.int pos tp)]⟩
section
variable {w : World} {mean : ExcName → Option Value} {mg mb : Str → Option Value} {p : Program} {loose : List Str} {t : Tok} {news : List (Addr × Obj)}
theorem get_okN {C x dx d : Addr} {k : Nat} {b : Array UInt8} {pos off : Int} {tp : Tok} (hK : KindAt w C k) (hk0 : ¬ k = 0) (hw : wdK k ≤ 8) (h0 : -(2 ^ 62) ≤ off) (h1 : off < 2 ^ 62) (hb : b.size ≤ 64)
   (m1 : (x, tabObj' dx d pos tp) ∈ news) (m2 : (dx, dictOf [] 0) ∈ news) (m3 : (d, baObj b) ∈ news) :
   Calls w mean mg mb p loose 3 24 (.ref 291) [.ref x, .ref C, .int off t] news (SaysRet news (reads k b off)) := by
  unfold Calls
  k_fill
  intro dp un gd cn cs a ccd cl outer A₀ base h₀ L m s Q E B F X N T hf hd hu hret
  obtain ⟨⟨P, nm, t1, t2, hl, hF, fmt, tb, hPk, PK⟩⟩ := id hK
  have hF' : Flag (Mine.hd.heap_1 w.params) C (.int (loK k) t1) (.int (hiK k) t2) (.type "int") (.ref P) nm := by simpa only [loV, hiV, if_neg hk0] using hF
  clear hF
  refine wpAny_call ?_
  k_dflt cell_enter
  k_steps
  · have e : reads k b off = .typ := if_neg (by omega)
    rw [e] at hret
    exact hret _ _ _ _ (by assumption) (by assumption) (by assumption)
  · have e : reads k b off = rd k b off := if_pos (by omega)
    have e2 : rd k b off = .fin := by assumption
    rw [e, e2] at hret
    exact hret _ _ _ _ (by assumption) (by assumption) (by assumption)
  · have e : reads k b off = rd k b off := if_pos (by omega)
    rename rd _ _ _ = Ans.int _ => e2
    rw [e, e2] at hret
    exact hret _ _ _ (by assumption) (by assumption)
theorem get_ok0 {C x dx d : Addr} {b : Array UInt8} {pos off : Int} {tp : Tok} (hK : KindAt w C 0) (h0 : -(2 ^ 62) ≤ off) (h1 : off < 2 ^ 62) (hb : b.size ≤ 64)
   (m1 : (x, tabObj' dx d pos tp) ∈ news) (m2 : (dx, dictOf [] 0) ∈ news) (m3 : (d, baObj b) ∈ news) :
   Calls w mean mg mb p loose 3 24 (.ref 291) [.ref x, .ref C, .int off t] news (SaysRet news (reads 0 b off)) := by
  unfold Calls
  k_fill
  intro dp un gd cn cs a ccd cl outer A₀ base h₀ L m s Q E B F X N T hf hd hu hret
  obtain ⟨⟨P, nm, t1, t2, hl, hF, fmt, tb, hPk, PK⟩⟩ := id hK
  have hF' : Flag (Mine.hd.heap_1 w.params) C (.bool false) (.bool true) (.type "bool") (.ref P) nm := hF
  have hw : wdK 0 ≤ 8 := by decide
  clear hF
  refine wpAny_call ?_
  k_dflt cell_enter
  k_steps
  · have e : reads 0 b off = .typ := if_neg (by omega)
    rw [e] at hret
    exact hret _ _ _ _ (by assumption) (by assumption) (by assumption)
  · have e : reads 0 b off = rd 0 b off := if_pos (by omega)
    have e2 : rd 0 b off = .fin := by assumption
    rw [e, e2] at hret
    exact hret _ _ _ _ (by assumption) (by assumption) (by assumption)
  · have e : reads 0 b off = rd 0 b off := if_pos (by omega)
    rename rd _ _ _ = Ans.bool _ => e2
    rw [e, e2] at hret
    exact hret 0 _ _ (by assumption) (by assumption)
end
end
section
section
variable {Q E : Value → Shared → Prop} {base h₀ : Heap} {L : Addr} {m : Str → Option Value} {fr : List Env} {s : Shared} {k : Nat} {b : Array UInt8} {news : List (Addr × Obj)} {off : Int}
theorem saysRet_reads (hk : ¬ k = 0) (hv : ∀ i, reads k b off = .int i → (0 ≤ off ∧ off ≤ 4294967295) → loK k ≤ i ∧ i ≤ hiK k → Rets (fun t => .int i t) Q h₀ L m news s) (ht : reads k b off = .typ → ¬ (0 ≤ off ∧ off ≤ 4294967295) → Raises "TypeError" E base h₀ L m fr news s) (hf : reads k b off = .fin → (0 ≤ off ∧ off ≤ 4294967295) → Raises "struct.error" E base h₀ L m fr news s) : SaysRet news (reads k b off) Q E base h₀ L m fr s := by
  by_cases h : 0 ≤ off ∧ off ≤ 4294967295
  · have e : reads k b off = rd k b off := if_pos h
    rcases rd_shape (k := k) (b := b) (n := off) hk with ⟨i, ei⟩ | ei
    · rw [e, ei] at hv ⊢
      exact hv i rfl h (rd_bounds h.1 ei)
    · rw [e, ei] at hf ⊢
      exact hf rfl h
  · have e : reads k b off = .typ := if_neg h
    rw [e] at ht ⊢
    exact ht rfl h
theorem SaysRet.int {a : Ans} {i : Int} (h : SaysRet news a Q E base h₀ L m fr s) (e : a = .int i) : Rets (fun t => .int i t) Q h₀ L m news s := by subst e; exact h
theorem SaysRet.bool {a : Ans} {i : Bool} (h : SaysRet news a Q E base h₀ L m fr s) (e : a = .bool i) : Rets (fun _ => .bool i) Q h₀ L m news s := by subst e; exact h
theorem SaysRet.bytes {a : Ans} {i : Array UInt8} (h : SaysRet news a Q E base h₀ L m fr s) (e : a = .bytes i) : Rets (fun t => .bytes i t) Q h₀ L m news s := by subst e; exact h
theorem SaysRet.typ {a : Ans} (h : SaysRet news a Q E base h₀ L m fr s) (e : a = .typ) : Raises "TypeError" E base h₀ L m fr news s := by subst e; exact h
theorem SaysRet.fin {a : Ans} (h : SaysRet news a Q E base h₀ L m fr s) (e : a = .fin) : Raises "struct.error" E base h₀ L m fr news s := by subst e; exact h
end
section
variable {w : World} {mean : ExcName → Option Value} {mg mb : Str → Option Value} {p : Program} {loose : List Str} {t : Tok} {news : List (Addr × Obj)} {x dx d : Addr} {b : Array UInt8} {pos off : Int} {tp : Tok}
theorem get_S (h0 : -(2 ^ 62) ≤ off) (h1 : off < 2 ^ 62) (hb : b.size ≤ 64) (m1 : (x, tabObj' dx d pos tp) ∈ news) (m2 : (dx, dictOf [] 0) ∈ news) (m3 : (d, baObj b) ∈ news) :
   Calls w mean mg mb p loose 3 24 (.ref 291) [.ref x, .ref 187, .int off t] news (SaysRet news (reads 7 b off)) := get_okN (kind_187 w) (by decide) (wdK_le _) h0 h1 hb m1 m2 m3
theorem get_U (h0 : -(2 ^ 62) ≤ off) (h1 : off < 2 ^ 62) (hb : b.size ≤ 64) (m1 : (x, tabObj' dx d pos tp) ∈ news) (m2 : (dx, dictOf [] 0) ∈ news) (m3 : (d, baObj b) ∈ news) :
   Calls w mean mg mb p loose 3 24 (.ref 291) [.ref x, .ref 199, .int off t] news (SaysRet news (reads 3 b off)) := get_okN (kind_199 w) (by decide) (wdK_le _) h0 h1 hb m1 m2 m3
theorem get_V (h0 : -(2 ^ 62) ≤ off) (h1 : off < 2 ^ 62) (hb : b.size ≤ 64) (m1 : (x, tabObj' dx d pos tp) ∈ news) (m2 : (dx, dictOf [] 0) ∈ news) (m3 : (d, baObj b) ∈ news) :
   Calls w mean mg mb p loose 3 24 (.ref 291) [.ref x, .ref 211, .int off t] news (SaysRet news (reads 2 b off)) := get_okN (kind_211 w) (by decide) (wdK_le _) h0 h1 hb m1 m2 m3
end
end
theorem kw11 : True := by
  w_top off
  k_with "m call ref" => (k_here; (first | ((with_reducible show wpAny _ _ (call (Value.ref 291) [Value.ref _, Value.ref 187, Value.int _ _]) _ _ _); k_dflt (refine' (get_S ?zzh0 ?zzh1 ?zzhb ?zzm1 ?zzm2 ?zzm3).use ?zzkB ?zzkF ?zzkX ?zzkN ?zzkT ?zzkf ?zzkd ?zzku ?_); (case zzh0 => first | assumption | omega); (case zzh1 => first | assumption | omega); (case zzhb => assumption); (case zzm1 => k_mem); (case zzm2 => k_mem); (case zzm3 => k_mem); (k_extra "mine ra"); (focus (refine saysRet_reads (by decide) (fun i9 hv9 hr9 hi9 t'9 h'9 tk'9 F'9 N'9 => ?_) (fun hv9 hr9 e'9 g'9 h'9 tk'9 FG'9 U'9 R'9 => ?_) (fun hv9 hr9 e'9 g'9 h'9 tk'9 FG'9 U'9 R'9 => ?_); (all_goals ((try simp only [loK, hiK] at hi9); (try (exfalso; omega))))))) | ((with_reducible show wpAny _ _ (call (Value.ref 291) [Value.ref _, Value.ref 199, Value.int _ _]) _ _ _); k_dflt (refine' (get_U ?zzh0 ?zzh1 ?zzhb ?zzm1 ?zzm2 ?zzm3).use ?zzkB ?zzkF ?zzkX ?zzkN ?zzkT ?zzkf ?zzkd ?zzku ?_); (case zzh0 => first | assumption | omega); (case zzh1 => first | assumption | omega); (case zzhb => assumption); (case zzm1 => k_mem); (case zzm2 => k_mem); (case zzm3 => k_mem); (k_extra "mine ra"); (focus (refine saysRet_reads (by decide) (fun i9 hv9 hr9 hi9 t'9 h'9 tk'9 F'9 N'9 => ?_) (fun hv9 hr9 e'9 g'9 h'9 tk'9 FG'9 U'9 R'9 => ?_) (fun hv9 hr9 e'9 g'9 h'9 tk'9 FG'9 U'9 R'9 => ?_); (all_goals ((try simp only [loK, hiK] at hi9); (try (exfalso; omega))))))) | ((with_reducible show wpAny _ _ (call (Value.ref 291) [Value.ref _, Value.ref 211, Value.int _ _]) _ _ _); k_dflt (refine' (get_V ?zzh0 ?zzh1 ?zzhb ?zzm1 ?zzm2 ?zzm3).use ?zzkB ?zzkF ?zzkX ?zzkN ?zzkT ?zzkf ?zzkd ?zzku ?_); (case zzh0 => first | assumption | omega); (case zzh1 => first | assumption | omega); (case zzhb => assumption); (case zzm1 => k_mem); (case zzm2 => k_mem); (case zzm3 => k_mem); (k_extra "mine ra"); (focus (refine saysRet_reads (by decide) (fun i9 hv9 hr9 hi9 t'9 h'9 tk'9 F'9 N'9 => ?_) (fun hv9 hr9 e'9 g'9 h'9 tk'9 FG'9 U'9 R'9 => ?_) (fun hv9 hr9 e'9 g'9 h'9 tk'9 FG'9 U'9 R'9 => ?_); (all_goals ((try simp only [loK, hiK] at hi9); (try (exfalso; omega)))))))))
  k_with "mine end" => ((rename SaysRet _ _ _ _ _ _ _ _ _ _ => hR); (first | (exact hR.int (by k_extra "mine eq") _ _ _ (by assumption) (by first | assumption | exact cb_drop (by assumption) (by kcj_in))) | (exact hR.bytes (by k_extra "mine eq") _ _ _ (by assumption) (by first | assumption | exact cb_drop (by assumption) (by kcj_in))) | (exact hR.bool (by k_extra "mine eq") 0 _ _ (by assumption) (by first | assumption | exact cb_drop (by assumption) (by kcj_in))) | (exact hR.typ (by k_extra "mine eq") _ _ _ _ (by assumption) (by assumption) (by first | assumption | exact raisedSN_weak (by assumption) (by kcj_in))) | (exact hR.fin (by k_extra "mine eq") _ _ _ _ (by assumption) (by assumption) (by first | assumption | exact raisedSN_weak (by assumption) (by kcj_in)))))
  trivial
section
/-- the row of slots: Table.Offset -/
def rowB (b : Array UInt8) (pos v : Int) : Ans :=
  match reads 7 b pos with
  | .int way => (match reads 2 b (pos - way) with
    | .int size => if v < size then reads 2 b (pos - way + v) else .int 0
    | e => e)
  | e => e
theorem kw12 : True := by
  w_top off
  k_with "mine eq" => (simp only [rowB, *, ↓reduceIte, if_true, if_false]; done)
  trivial
section
variable {w : World} {mean : ExcName → Option Value} {mg mb : Str → Option Value} {p : Program} {loose : List Str} {t : Tok} {news : List (Addr × Obj)} {x dx d : Addr} {b : Array UInt8} {pos off v : Int} {tp : Tok}
theorem offset_ok (h0 : 0 ≤ pos) (h1 : pos < 2 ^ 33) (h2 : 0 ≤ v) (h3 : v < 2 ^ 17) (hb : b.size ≤ 64) (m1 : (x, tabObj' dx d pos tp) ∈ news) (m2 : (dx, dictOf [] 0) ∈ news) (m3 : (d, baObj b) ∈ news) :
   Calls w mean mg mb p loose 5 40 (.ref 249) [.ref x, .int v t] news (SaysRet news (rowB b pos v)) := by
  unfold Calls
  k_fill
  intro dp un gd cn cs a ccd cl outer A₀ base h₀ L m s Q E B F X N T hf hd hu hret
  refine wpAny_call ?_
  k_dflt cell_enter
  k_steps
  all_goals k_extra "mine end"
end
end
section
/-- a place, and the distance that stands there: Table.Indirect -/
def far (b : Array UInt8) (off : Int) : Ans := match reads 3 b off with | .int i => .int (off + i) | e => e
theorem far_typ {b : Array UInt8} {off : Int} (h : ¬ (0 ≤ off ∧ off ≤ 4294967295)) : far b off = .typ := by unfold far reads; rw [if_neg h]
theorem far_fin {b : Array UInt8} {off : Int} (h : 0 ≤ off ∧ off ≤ 4294967295) (e : rd 3 b off = .fin) : far b off = .fin := by unfold far reads; rw [if_pos h, e]
theorem far_int {b : Array UInt8} {off i : Int} (h : 0 ≤ off ∧ off ≤ 4294967295) (e : rd 3 b off = .int i) : far b off = .int (off + i) := by unfold far reads; rw [if_pos h, e]
/-- the length that stands at a vector's head: Table.VectorLen -/
def vlen (b : Array UInt8) (place : Int) : Ans := match reads 3 b place with | .int i => rd 3 b (place + i) | e => e
theorem vlen_fin {b : Array UInt8} {off : Int} (h : 0 ≤ off ∧ off ≤ 4294967295) (e : rd 3 b off = .fin) : vlen b off = .fin := by unfold vlen reads; rw [if_pos h, e]
theorem vlen_int {b : Array UInt8} {off i : Int} {a : Ans} (h : 0 ≤ off ∧ off ≤ 4294967295) (e : rd 3 b off = .int i) (e2 : rd 3 b (off + i) = a) : vlen b off = a := by unfold vlen reads; rw [if_pos h, e]; exact e2
/-- where a vector's items begin: Table.Vector -/
def vec (b : Array UInt8) (place : Int) : Ans := match reads 3 b place with | .int i => .int (place + i + 4) | e => e
theorem vec_fin {b : Array UInt8} {off : Int} (e : reads 3 b off = .fin) : vec b off = .fin := by unfold vec; rw [e]
theorem vec_int {b : Array UInt8} {off i : Int} (e : reads 3 b off = .int i) : vec b off = .int (off + i + 4) := by unfold vec; rw [e]
theorem kw13 : True := by
  w_top off
  k_with "mine eq" => (first | (exact far_int (by omega) (by assumption)) | (exact far_fin (by omega) (by assumption)) | (exact far_typ (by omega)) | (exact vlen_int (by omega) (by assumption) (by assumption)) | (exact vlen_fin (by omega) (by assumption)) | (exact vec_int (by assumption)) | (exact vec_fin (by assumption)))
  trivial
section
variable {w : World} {mean : ExcName → Option Value} {mg mb : Str → Option Value} {p : Program} {loose : List Str} {t : Tok} {news : List (Addr × Obj)} {x dx d : Addr} {b : Array UInt8} {pos off v : Int} {tp : Tok}
theorem rd3_range {i : Int} (h0 : 0 ≤ off) (e : rd 3 b off = .int i) : 0 ≤ i ∧ i ≤ 4294967295 := rd_bounds h0 e
theorem indirect_ok (h0 : -(2 ^ 33) ≤ off) (h1 : off < 2 ^ 33) (hb : b.size ≤ 64) (m1 : (x, tabObj' dx d pos tp) ∈ news) (m2 : (dx, dictOf [] 0) ∈ news) (m3 : (d, baObj b) ∈ news) :
   Calls w mean mg mb p loose 5 40 (.ref 256) [.ref x, .int off t] news (SaysRet news (far b off)) := by
  unfold Calls
  k_fill
  intro dp un gd cn cs a ccd cl outer A₀ base h₀ L m s Q E B F X N T hf hd hu hret
  refine wpAny_call ?_
  k_dflt cell_enter
  k_steps
  all_goals (first | k_extra "mine end")
theorem vectorlen_ok (h0 : 0 ≤ off) (h1 : off < 2 ^ 20) (h2 : 0 ≤ pos) (h3 : pos < 2 ^ 20) (hb : b.size ≤ 64) (m1 : (x, tabObj' dx d pos tp) ∈ news) (m2 : (dx, dictOf [] 0) ∈ news) (m3 : (d, baObj b) ∈ news) :
   Calls w mean mg mb p loose 5 40 (.ref 270) [.ref x, .int off t] news (SaysRet news (vlen b (off + pos))) := by
  unfold Calls
  k_fill
  intro dp un gd cn cs a ccd cl outer A₀ base h₀ L m s Q E B F X N T hf hd hu hret
  refine wpAny_call ?_
  k_dflt cell_enter
  k_steps
  all_goals (first | k_extra "mine end")
theorem vector_ok (h0 : 0 ≤ off) (h1 : off < 2 ^ 20) (h2 : 0 ≤ pos) (h3 : pos < 2 ^ 20) (hb : b.size ≤ 64) (m1 : (x, tabObj' dx d pos tp) ∈ news) (m2 : (dx, dictOf [] 0) ∈ news) (m3 : (d, baObj b) ∈ news) :
   Calls w mean mg mb p loose 5 40 (.ref 277) [.ref x, .int off t] news (SaysRet news (vec b (off + pos))) := by
  unfold Calls
  k_fill
  intro dp un gd cn cs a ccd cl outer A₀ base h₀ L m s Q E B F X N T hf hd hu hret
  refine wpAny_call ?_
  k_dflt cell_enter
  k_steps
  all_goals (first | k_extra "mine end")
end
end
section
/-- the octets behind a length: Table.String -/
def str (b : Array UInt8) (off : Int) : Ans := match reads 3 b off with
  | .int i => (match rd 3 b (off + i) with | .int n => .bytes (KBy.picked b (some (off + i + 4)) (some (off + i + 4 + n))) | e => e)
  | e => e
theorem str_fin {b : Array UInt8} {off : Int} (h : 0 ≤ off ∧ off ≤ 4294967295) (e : rd 3 b off = .fin) : str b off = .fin := by unfold str reads; rw [if_pos h, e]
theorem str_fin2 {b : Array UInt8} {off i : Int} (h : 0 ≤ off ∧ off ≤ 4294967295) (e : rd 3 b off = .int i) (e2 : rd 3 b (off + i) = .fin) : str b off = .fin := by unfold str reads; rw [if_pos h, e]; simp only [e2]
theorem str_bytes {b : Array UInt8} {off i n : Int} (h : 0 ≤ off ∧ off ≤ 4294967295) (e : rd 3 b off = .int i) (e2 : rd 3 b (off + i) = .int n) : str b off = .bytes (KBy.picked b (some (off + i + 4)) (some (off + i + 4 + n))) := by unfold str reads; rw [if_pos h, e]; simp only [e2]
theorem kw14 : True := by
  w_top off
  k_with "mine eq" => (first | (exact str_bytes (by omega) (by assumption) (by assumption)) | (exact str_fin2 (by omega) (by assumption) (by assumption)) | (exact str_fin (by omega) (by assumption)))
  k_with "m subscriptTail" => (k_here; (with_reducible show wpAny _ _ (subscriptTail _ (Expr.Slice _ _ none _) (Value.ref _) (Value.ref _)) _ _ _); k_dflt (refine' ba_slice (s := ⟨_, _, _, _, _⟩) ?zzF ?zzN ?zzhm ?zzhb ?_; (case zzF => k_asm); (case zzN => k_asm); (case zzhm => k_mem); (case zzhb => assumption)); intro D' h' k' F' N' l1; (try k_lt l1))
  k_with "m call type:bytes" => (k_here; (with_reducible show wpAny _ _ (call (Value.type _) [Value.ref _]) _ _ _); (refine' bytes_ba ?zzhm ?zzN ?zzhb ?_; (case zzN => k_asm); (case zzhm => k_mem); (case zzhb => first | assumption | (exact Nat.le_trans (KBc.size_picked_le _ _ _) (by assumption))); k_whole); intro t' k')
  trivial
section
variable {w : World} {mean : ExcName → Option Value} {mg mb : Str → Option Value} {p : Program} {loose : List Str} {t : Tok} {news : List (Addr × Obj)} {x dx d : Addr} {b : Array UInt8} {pos off v : Int} {tp : Tok}
theorem string_ok (h0 : 0 ≤ off) (h1 : off < 2 ^ 20) (hb : b.size ≤ 64) (m1 : (x, tabObj' dx d pos tp) ∈ news) (m2 : (dx, dictOf [] 0) ∈ news) (m3 : (d, baObj b) ∈ news) :
   Calls w mean mg mb p loose 5 40 (.ref 263) [.ref x, .int off t] news (SaysRet news (str b off)) := by
  unfold Calls
  k_fill
  intro dp un gd cn cs a ccd cl outer A₀ base h₀ L m s Q E B F X N T hf hd hu hret
  refine wpAny_call ?_
  k_dflt cell_enter
  k_steps
  all_goals (first | k_extra "mine end")
end
end
theorem kw15 : True := by
  w_top off
  k_with_none
  k_with "k_ne" => ((try dsimp only); with_reducible first | exact Nat.ne_of_lt (by k_extra "mine lt") | exact Nat.ne_of_gt (by k_extra "mine lt") | fail)
  k_with "mine lt" => (first | assumption | (refine Nat.lt_trans (by assumption) ?_; k_extra "mine lt"))
  k_with "mine ra" => ((case zzkB => k_asm); (case zzkF => k_asm); (case zzkX => k_asm); (case zzkN => k_asm); (case zzkT => k_asm); (case zzkf => first | exact rfl | assumption); (case zzkd => ktr_room); (case zzku => ktr_units))
  k_with "mine name" => (first | (name_kind "local"; refine' nameX_L (by k_asm) (by exact rfl) ?_ (by kernel_rfl) (by kernel_rfl) (by kernel_rfl); k_whole) | (name_kind "globalImplicit"; refine' nameX_K (by k_asm) (by k_asm) (by k_asm) (by k_is) ?_ (by kernel_rfl) (by kernel_rfl) (by kernel_rfl); k_whole) | (name_kind "globalImplicit"; refine' nameX_B (by k_asm) (by k_asm) (by k_asm) (by k_is) (by boot_fast) (by decide) ?_ (by kernel_rfl) (by kernel_rfl) (by kernel_rfl); k_whole))
  k_with "m eval Name" => (k_here; k_dflt k_extra "mine name")
  k_with "k_room" => (ktr_room)
  k_with "k_units" => (ktr_units)
  k_with "m getMethod ref" => (k_here; (with_reducible show wpAny _ _ (getMethod (Value.ref _) (PySem.Str.ofString "unpack_from") _) _ _ _); (refine' method_unpack ?zzhP ?_; (case zzhP => exact (Frag.In.keeps (by k_asm) (Fr.keep (by k_asm))) _ _ (by assumption)); k_whole))
  k_with "m call builtin:_struct.Struct.unpack_from" => (k_here; ((focus (refine' unpack_call ?zzhh ?zzF ?zzN ?zzhP ?zzhd ?zzPK ?zzh0 ?zzh1 ?zzhb ?zzhw (fun hin9 T'9 t'9 h'9 tk'9 F'9 N'9 l19 => ?_) (fun hin9 h'9 tk'9 e'9 x'9 => ?_); (case zzhh => rfl); (case zzF => k_asm); (case zzN => k_asm); (case zzhP => exact (Frag.In.keeps (by k_asm) (Fr.keep (by k_asm))) _ _ (by assumption)); (case zzhd => exact News.get (by k_asm) (by k_mem)); (case zzPK => assumption); (case zzh0 => assumption); (case zzh1 => omega); (case zzhb => assumption); (case zzhw => assumption); (all_goals ((try k_lt l19))); rotate_left))))
  k_with "m leaving ref" => (k_here; (first | (refine' leave_onX rfl ?zzk1 ?zzk2 ?zzk3 ?zzk4 ?_; (case zzk3 => assumption); (case zzk1 => assumption); (case zzk4 => assumption); (case zzk2 => assumption); k_whole; intro h' R' U'; (try dsimp only at R' U' ⊢)) | (refine' leave_newN ?zzk1 ?zzk0 ?zzk2 ?zzk3 ?_; (case zzk0 => assumption); (case zzk1 => assumption); (case zzk2 => assumption); (case zzk3 => k_asm); k_whole; intro h' R' U'; (try dsimp only at R' U' ⊢)) | (refine' leave_raiseN ?zzk1 ?zzk0 ?zzk2 ?zzk3 ?_; (case zzk0 => first | assumption | (exact Heap.MadeExc.of (by assumption))); (case zzk1 => assumption); (case zzk2 => assumption); (case zzk3 => k_asm); k_whole; intro h' R' U'; (try dsimp only at R' U' ⊢))))
  k_with "m getAttr ref" => (k_here; (first | (refine' cls_val ?zzk1 ?zzk2 ?zzk3 ?zzk4 ?zzk5 ?zzk6 ?_; (case zzk1 => k_asm); (case zzk2 => k_asm); (case zzk3 => exact Flag.ty (by assumption)); (case zzk4 => exact Flag.rd (by assumption)); (case zzk5 => first | (exact Flag.mn (by assumption)) | (exact Flag.mx (by assumption)) | (exact Flag.pkt (by assumption)) | assumption); (case zzk6 => rfl); k_whole) | (refine' cls_pyt ?zzX ?zzr ?zza ?zzb ?zzT ?_; (case zza => exact Flag.pyt (by assumption)); (case zzX => exact (Frag.In.keeps (by k_asm) (Fr.keep (by k_asm)))); (case zzr => exact Flag.rd (by assumption)); (case zzb => exact Flag.pym (by assumption)); (case zzT => first | exact FF.mt_int | exact FF.mt_bool | assumption); k_whole)))
  k_with "m compareOp LtE bool int" => (refine le_bool_int ?_)
  k_with "m compareOp LtE int bool" => (refine le_int_bool ?_)
  k_with "m call ref" => (k_here; (first | ((with_reducible show wpAny _ _ (call (Value.ref 220) [Value.int _ _, Value.ref 199]) _ _ _); (focus (k_dflt (refine' (enforce_U ?zzh0 ?zzh1).use ?zzkB ?zzkF ?zzkX ?zzkN ?zzkT ?zzkf ?zzkd ?zzku ⟨(fun hc9 t'9 h'9 tk'9 F'9 N'9 => ?_), (fun hc9 e'9 g'9 h'9 tk'9 FG'9 U'9 R'9 => ?_)⟩); (k_extra "mine ra"); (case zzh0 => first | assumption | omega); (case zzh1 => first | assumption | omega); (all_goals ((try (exfalso; omega)))); rotate_left))) | ((with_reducible show wpAny _ _ (call (Value.ref 220) [Value.int _ _, Value.ref 211]) _ _ _); (focus (k_dflt (refine' (enforce_V ?zzh0 ?zzh1).use ?zzkB ?zzkF ?zzkX ?zzkN ?zzkT ?zzkf ?zzkd ?zzku ⟨(fun hc9 t'9 h'9 tk'9 F'9 N'9 => ?_), (fun hc9 e'9 g'9 h'9 tk'9 FG'9 U'9 R'9 => ?_)⟩); (k_extra "mine ra"); (case zzh0 => first | assumption | omega); (case zzh1 => first | assumption | omega); (all_goals ((try (exfalso; omega)))); rotate_left))) | ((with_reducible show wpAny _ _ (call (Value.ref 220) [Value.int _ _, Value.ref _]) _ _ _); (focus (k_dflt (refine' (enforce_k ?zzhK ?zzhk ?zzh0 ?zzh1).use ?zzkB ?zzkF ?zzkX ?zzkN ?zzkT ?zzkf ?zzkd ?zzku ⟨(fun hc9 t'9 h'9 tk'9 F'9 N'9 => ?_), (fun hc9 e'9 g'9 h'9 tk'9 FG'9 U'9 R'9 => ?_)⟩; (case zzhK => assumption); (case zzhk => assumption)); (k_extra "mine ra"); (case zzh0 => first | assumption | omega); (case zzh1 => first | assumption | omega); (all_goals ((try (exfalso; omega)))); rotate_left)))))
  k_with "m getMethod ref" => (k_here; (with_reducible show wpAny _ _ (getMethod (Value.ref _) (PySem.Str.ofString "py_type") _) _ _ _); (refine' method_of_cls ?zzF ?zzX ?zzg ?_; (case zzF => k_asm); (case zzX => k_asm); (case zzg => exact Flag.sp (by assumption)); k_whole))
  k_with "m call ref" => (k_here; (first | ((with_reducible show wpAny _ _ (call (Value.ref 227) [Value.ref 46, Value.ref _, Value.int _ _]) _ _ _); k_dflt (refine' (get_encode_U ?zzh0 ?zzh1 ?zzhb ?zzhm).use ?zzkB ?zzkF ?zzkX ?zzkN ?zzkT ?zzkf ?zzkd ?zzku ?_); (case zzh0 => first | assumption | omega); (case zzh1 => first | assumption | omega); (case zzhb => assumption); (case zzhm => k_mem); (k_extra "mine ra"); (first | ((focus (refine saysRet_bool (fun i9 hv9 t'9 h'9 tk'9 F'9 N'9 => ?_) (fun hv9 e'9 g'9 h'9 tk'9 FG'9 U'9 R'9 => ?_); rotate_left))) | ((focus (refine saysRet_int ?zzhk ?zzhn (fun i9 hv9 hi9 t'9 h'9 tk'9 F'9 N'9 => ?_) (fun hv9 e'9 g'9 h'9 tk'9 FG'9 U'9 R'9 => ?_); (case zzhk => first | assumption | omega | decide); (case zzhn => first | assumption | omega); (all_goals ((try simp only [loK, hiK] at hi9))); rotate_left))))) | ((with_reducible show wpAny _ _ (call (Value.ref 227) [Value.ref _, Value.ref _, Value.int _ _]) _ _ _); k_dflt (refine' (get_encode ?zzhP ?zzPK ?zzh0 ?zzh1 ?zzhb ?zzhw ?zzhm).use ?zzkB ?zzkF ?zzkX ?zzkN ?zzkT ?zzkf ?zzkd ?zzku ?_; (case zzhP => assumption); (case zzPK => assumption); (case zzhw => assumption)); (case zzh0 => first | assumption | omega); (case zzh1 => first | assumption | omega); (case zzhb => assumption); (case zzhm => k_mem); (k_extra "mine ra"); (first | ((focus (refine saysRet_bool (fun i9 hv9 t'9 h'9 tk'9 F'9 N'9 => ?_) (fun hv9 e'9 g'9 h'9 tk'9 FG'9 U'9 R'9 => ?_); rotate_left))) | ((focus (refine saysRet_int ?zzhk ?zzhn (fun i9 hv9 hi9 t'9 h'9 tk'9 F'9 N'9 => ?_) (fun hv9 e'9 g'9 h'9 tk'9 FG'9 U'9 R'9 => ?_); (case zzhk => first | assumption | omega | decide); (case zzhn => first | assumption | omega); (all_goals ((try simp only [loK, hiK] at hi9))); rotate_left)))))))
  k_with "m call ref" => (k_here; (first | ((with_reducible show wpAny _ _ (call (Value.ref 291) [Value.ref _, Value.ref 187, Value.int _ _]) _ _ _); k_dflt (refine' (get_S ?zzh0 ?zzh1 ?zzhb ?zzm1 ?zzm2 ?zzm3).use ?zzkB ?zzkF ?zzkX ?zzkN ?zzkT ?zzkf ?zzkd ?zzku ?_); (case zzh0 => first | assumption | omega); (case zzh1 => first | assumption | omega); (case zzhb => assumption); (case zzm1 => k_mem); (case zzm2 => k_mem); (case zzm3 => k_mem); (k_extra "mine ra"); (focus (refine saysRet_reads (by decide) (fun i9 hv9 hr9 hi9 t'9 h'9 tk'9 F'9 N'9 => ?_) (fun hv9 hr9 e'9 g'9 h'9 tk'9 FG'9 U'9 R'9 => ?_) (fun hv9 hr9 e'9 g'9 h'9 tk'9 FG'9 U'9 R'9 => ?_); (all_goals ((try simp only [loK, hiK] at hi9); (try (exfalso; omega))))))) | ((with_reducible show wpAny _ _ (call (Value.ref 291) [Value.ref _, Value.ref 199, Value.int _ _]) _ _ _); k_dflt (refine' (get_U ?zzh0 ?zzh1 ?zzhb ?zzm1 ?zzm2 ?zzm3).use ?zzkB ?zzkF ?zzkX ?zzkN ?zzkT ?zzkf ?zzkd ?zzku ?_); (case zzh0 => first | assumption | omega); (case zzh1 => first | assumption | omega); (case zzhb => assumption); (case zzm1 => k_mem); (case zzm2 => k_mem); (case zzm3 => k_mem); (k_extra "mine ra"); (focus (refine saysRet_reads (by decide) (fun i9 hv9 hr9 hi9 t'9 h'9 tk'9 F'9 N'9 => ?_) (fun hv9 hr9 e'9 g'9 h'9 tk'9 FG'9 U'9 R'9 => ?_) (fun hv9 hr9 e'9 g'9 h'9 tk'9 FG'9 U'9 R'9 => ?_); (all_goals ((try simp only [loK, hiK] at hi9); (try (exfalso; omega))))))) | ((with_reducible show wpAny _ _ (call (Value.ref 291) [Value.ref _, Value.ref 211, Value.int _ _]) _ _ _); k_dflt (refine' (get_V ?zzh0 ?zzh1 ?zzhb ?zzm1 ?zzm2 ?zzm3).use ?zzkB ?zzkF ?zzkX ?zzkN ?zzkT ?zzkf ?zzkd ?zzku ?_); (case zzh0 => first | assumption | omega); (case zzh1 => first | assumption | omega); (case zzhb => assumption); (case zzm1 => k_mem); (case zzm2 => k_mem); (case zzm3 => k_mem); (k_extra "mine ra"); (focus (refine saysRet_reads (by decide) (fun i9 hv9 hr9 hi9 t'9 h'9 tk'9 F'9 N'9 => ?_) (fun hv9 hr9 e'9 g'9 h'9 tk'9 FG'9 U'9 R'9 => ?_) (fun hv9 hr9 e'9 g'9 h'9 tk'9 FG'9 U'9 R'9 => ?_); (all_goals ((try simp only [loK, hiK] at hi9); (try (exfalso; omega)))))))))
  k_with "mine end" => ((rename SaysRet _ _ _ _ _ _ _ _ _ _ => hR); (first | (exact hR.int (by k_extra "mine eq") _ _ _ (by assumption) (by first | assumption | exact cb_drop (by assumption) (by kcj_in))) | (exact hR.bytes (by k_extra "mine eq") _ _ _ (by assumption) (by first | assumption | exact cb_drop (by assumption) (by kcj_in))) | (exact hR.bool (by k_extra "mine eq") 0 _ _ (by assumption) (by first | assumption | exact cb_drop (by assumption) (by kcj_in))) | (exact hR.typ (by k_extra "mine eq") _ _ _ _ (by assumption) (by assumption) (by first | assumption | exact raisedSN_weak (by assumption) (by kcj_in))) | (exact hR.fin (by k_extra "mine eq") _ _ _ _ (by assumption) (by assumption) (by first | assumption | exact raisedSN_weak (by assumption) (by kcj_in)))))
  k_with "m call ref" => (k_here; (with_reducible show wpAny _ _ (call (Value.ref 249) [Value.ref _, Value.int _ _]) _ _ _); k_dflt (refine' (offset_ok ?zzh0 ?zzh1 ?zzh2 ?zzh3 ?zzhb ?zzm1 ?zzm2 ?zzm3).use ?zzkB ?zzkF ?zzkX ?zzkN ?zzkT ?zzkf ?zzkd ?zzku ?_); (case zzm1 => k_mem); (case zzm2 => k_mem); (case zzm3 => k_mem); (case zzh0 => first | assumption | omega); (case zzh1 => first | assumption | omega); (case zzh2 => first | assumption | omega); (case zzh3 => first | assumption | omega); (case zzhb => assumption); (k_extra "mine ra"); refine saysRet_row (fun i9 hv9 hi9 t'9 h'9 tk'9 F'9 N'9 => ?_) (fun hv9 e'9 g'9 h'9 tk'9 FG'9 U'9 R'9 => ?_) (fun hv9 e'9 g'9 h'9 tk'9 FG'9 U'9 R'9 => ?_))
  trivial
section
theorem row_shape (b : Array UInt8) (pos v : Int) : (∃ i, rowB b pos v = .int i ∧ 0 ≤ i ∧ i ≤ 65535) ∨ rowB b pos v = .typ ∨ rowB b pos v = .fin := by
  have sh : ∀ k, ¬ k = 0 → ∀ off, (∃ i, reads k b off = .int i ∧ loK k ≤ i ∧ i ≤ hiK k) ∨ reads k b off = .typ ∨ reads k b off = .fin := by
    intro k hk off
    unfold reads
    split
    · rename_i h
      rcases rd_shape (k := k) (b := b) (n := off) hk with ⟨i, e⟩ | e
      · exact .inl ⟨i, e, rd_bounds h.1 e⟩
      · exact .inr (.inr e)
    · exact .inr (.inl rfl)
  unfold rowB
  rcases sh 7 (by decide) pos with ⟨i, e, _⟩ | e | e
  · rw [e]
    dsimp only
    rcases sh 2 (by decide) (pos - i) with ⟨j, e2, _⟩ | e2 | e2
    · rw [e2]
      dsimp only
      split
      · exact sh 2 (by decide) _
      · exact .inl ⟨0, rfl, by omega, by omega⟩
    · rw [e2]; exact .inr (.inl rfl)
    · rw [e2]; exact .inr (.inr rfl)
  · rw [e]; exact .inr (.inl rfl)
  · rw [e]; exact .inr (.inr rfl)
section
variable {Q E : Value → Shared → Prop} {base h₀ : Heap} {L : Addr} {m : Str → Option Value} {fr : List Env} {s : Shared} {b : Array UInt8} {news : List (Addr × Obj)} {pos v : Int}
theorem saysRet_row (hv : ∀ i, rowB b pos v = .int i → 0 ≤ i ∧ i ≤ 65535 → Rets (fun t => .int i t) Q h₀ L m news s) (ht : rowB b pos v = .typ → Raises "TypeError" E base h₀ L m fr news s) (hf : rowB b pos v = .fin → Raises "struct.error" E base h₀ L m fr news s) : SaysRet news (rowB b pos v) Q E base h₀ L m fr s := by
  rcases row_shape b pos v with ⟨i, e, hi⟩ | e | e
  · rw [e] at hv ⊢; exact hv i rfl hi
  · rw [e] at ht ⊢; exact ht rfl
  · rw [e] at hf ⊢; exact hf rfl
end
theorem kw16 : True := by
  w_top off
  trivial
/-- Table.GetVOffsetTSlot -/
def vslot (b : Array UInt8) (pos v dd : Int) : Ans := if 0 ≤ v ∧ v ≤ 65535 then (match rowB b pos v with | .int i => if i = 0 then .int dd else .int i | e => e) else .typ
theorem vslot_typ {b : Array UInt8} {pos v dd : Int} (h : ¬ (0 ≤ v ∧ v ≤ 65535)) : vslot b pos v dd = .typ := by unfold vslot; rw [if_neg h]
theorem vslot_t {b : Array UInt8} {pos v dd : Int} (h : 0 ≤ v ∧ v ≤ 65535) (e : rowB b pos v = .typ) : vslot b pos v dd = .typ := by unfold vslot; rw [if_pos h, e]
theorem vslot_f {b : Array UInt8} {pos v dd : Int} (h : 0 ≤ v ∧ v ≤ 65535) (e : rowB b pos v = .fin) : vslot b pos v dd = .fin := by unfold vslot; rw [if_pos h, e]
theorem vslot_0 {b : Array UInt8} {pos v dd i : Int} (h : 0 ≤ v ∧ v ≤ 65535) (e : rowB b pos v = .int i) (hi : i = 0) : vslot b pos v dd = .int dd := by unfold vslot; rw [if_pos h, e]; simp only [if_pos hi]
theorem vslot_i {b : Array UInt8} {pos v dd i : Int} (h : 0 ≤ v ∧ v ≤ 65535) (e : rowB b pos v = .int i) (hi : ¬ i = 0) : vslot b pos v dd = .int i := by unfold vslot; rw [if_pos h, e]; simp only [if_neg hi]
theorem kw17 : True := by
  w_top off
  k_with "mine eq" => (first | (exact vslot_0 (by omega) (by assumption) (by omega)) | (exact vslot_i (by omega) (by assumption) (by omega)) | (exact vslot_f (by omega) (by assumption)) | (exact vslot_t (by omega) (by assumption)) | (exact vslot_typ (by omega)))
  trivial
section
variable {w : World} {mean : ExcName → Option Value} {mg mb : Str → Option Value} {p : Program} {loose : List Str} {t t' : Tok} {news : List (Addr × Obj)} {x dx d : Addr} {b : Array UInt8} {pos off v dd : Int} {tp : Tok}
theorem vslot_ok (h0 : 0 ≤ pos) (h1 : pos < 2 ^ 33) (h2 : 0 ≤ v) (h3 : v < 2 ^ 17) (h4 : 0 ≤ dd) (h5 : dd ≤ 65535) (hb : b.size ≤ 64) (m1 : (x, tabObj' dx d pos tp) ∈ news) (m2 : (dx, dictOf [] 0) ∈ news) (m3 : (d, baObj b) ∈ news) :
   Calls w mean mg mb p loose 7 56 (.ref 305) [.ref x, .int v t, .int dd t'] news (SaysRet news (vslot b pos v dd)) := by
  unfold Calls
  k_fill
  intro dp un gd cn cs a ccd cl outer A₀ base h₀ L m s Q E B F X N T hf hd hu hret
  refine wpAny_call ?_
  k_dflt cell_enter
  k_steps
  all_goals (first | k_extra "mine end")
end
end
theorem kw18 : True := by
  w_top off
  k_with "m call ref" => (k_here; (first | ((with_reducible show wpAny _ _ (call (Value.ref 220) [Value.int _ _, Value.ref 199]) _ _ _); k_dflt (refine' (enforce_U ?zzh0 ?zzh1).use ?zzkB ?zzkF ?zzkX ?zzkN ?zzkT ?zzkf ?zzkd ?zzku ?_); (k_extra "mine ra"); (case zzh0 => first | assumption | omega); (case zzh1 => first | assumption | omega); (focus (refine ⟨(fun hc9 t'9 h'9 tk'9 F'9 N'9 => ?_), (fun hc9 e'9 g'9 h'9 tk'9 FG'9 U'9 R'9 => ?_)⟩; (all_goals ((try (exfalso; omega)))); rotate_left))) | ((with_reducible show wpAny _ _ (call (Value.ref 220) [Value.int _ _, Value.ref 211]) _ _ _); k_dflt (refine' (enforce_V ?zzh0 ?zzh1).use ?zzkB ?zzkF ?zzkX ?zzkN ?zzkT ?zzkf ?zzkd ?zzku ?_); (k_extra "mine ra"); (case zzh0 => first | assumption | omega); (case zzh1 => first | assumption | omega); (focus (refine ⟨(fun hc9 t'9 h'9 tk'9 F'9 N'9 => ?_), (fun hc9 e'9 g'9 h'9 tk'9 FG'9 U'9 R'9 => ?_)⟩; (all_goals ((try (exfalso; omega)))); rotate_left))) | ((with_reducible show wpAny _ _ (call (Value.ref 220) [Value.int _ _, Value.ref _]) _ _ _); k_dflt (refine' (enforce_k ?zzhK ?zzhk ?zzh0 ?zzh1).use ?zzkB ?zzkF ?zzkX ?zzkN ?zzkT ?zzkf ?zzkd ?zzku ?_; (case zzhK => assumption); (case zzhk => first | assumption | omega)); (k_extra "mine ra"); (case zzh0 => first | assumption | omega); (case zzh1 => first | assumption | omega); (focus (refine ⟨(fun hc9 t'9 h'9 tk'9 F'9 N'9 => ?_), (fun hc9 e'9 g'9 h'9 tk'9 FG'9 U'9 R'9 => ?_)⟩; (all_goals ((try (exfalso; omega)))); rotate_left)))))
  k_with "m call ref" => (k_here; (first | ((with_reducible show wpAny _ _ (call (Value.ref 291) [Value.ref _, Value.ref 187, Value.int _ _]) _ _ _); fail) | ((with_reducible show wpAny _ _ (call (Value.ref 291) [Value.ref _, Value.ref 199, Value.int _ _]) _ _ _); fail) | ((with_reducible show wpAny _ _ (call (Value.ref 291) [Value.ref _, Value.ref 211, Value.int _ _]) _ _ _); fail) | ((with_reducible show wpAny _ _ (call (Value.ref 291) [Value.ref _, Value.ref _, Value.int _ _]) _ _ _); k_dflt (refine' (get_okN ?zzhK ?zzhk0 ?zzhw ?zzh0 ?zzh1 ?zzhb ?zzm1 ?zzm2 ?zzm3).use ?zzkB ?zzkF ?zzkX ?zzkN ?zzkT ?zzkf ?zzkd ?zzku ?_; (case zzhK => assumption); (case zzhk0 => assumption); (case zzhw => exact wdK_le _)); (case zzh0 => first | assumption | omega); (case zzh1 => first | assumption | omega); (case zzhb => assumption); (case zzm1 => k_mem); (case zzm2 => k_mem); (case zzm3 => k_mem); (k_extra "mine ra"); (focus (refine saysRet_reads (by assumption) (fun i9 hv9 hr9 hi9 t'9 h'9 tk'9 F'9 N'9 => ?_) (fun hv9 hr9 e'9 g'9 h'9 tk'9 FG'9 U'9 R'9 => ?_) (fun hv9 hr9 e'9 g'9 h'9 tk'9 FG'9 U'9 R'9 => ?_); (all_goals ((try (exfalso; omega))))))) | ((with_reducible show wpAny _ _ (call (Value.ref 291) [Value.ref _, Value.ref _, Value.int _ _]) _ _ _); k_dflt (refine' (get_ok0 ?zzhK ?zzh0 ?zzh1 ?zzhb ?zzm1 ?zzm2 ?zzm3).use ?zzkB ?zzkF ?zzkX ?zzkN ?zzkT ?zzkf ?zzkd ?zzku ?_; (case zzhK => assumption)); (case zzh0 => first | assumption | omega); (case zzh1 => first | assumption | omega); (case zzhb => assumption); (case zzm1 => k_mem); (case zzm2 => k_mem); (case zzm3 => k_mem); (k_extra "mine ra"); (focus (refine saysRet_reads0 (fun i9 hv9 hr9 t'9 h'9 tk'9 F'9 N'9 => ?_) (fun hv9 hr9 e'9 g'9 h'9 tk'9 FG'9 U'9 R'9 => ?_) (fun hv9 hr9 e'9 g'9 h'9 tk'9 FG'9 U'9 R'9 => ?_); (all_goals ((try (exfalso; omega)))))))))
  k_with "m call ref" => (k_here; (first | ((with_reducible show wpAny _ _ (call (Value.ref 220) [Value.bool _, Value.ref 61]) _ _ _); k_dflt (refine' (enforce_bb).use ?zzkB ?zzkF ?zzkX ?zzkN ?zzkT ?zzkf ?zzkd ?zzku ⟨?_, fun hc => (hc trivial).elim⟩); (k_extra "mine ra"); (intro hc t' h' tk' F' N')) | ((with_reducible show wpAny _ _ (call (Value.ref 220) [Value.int _ _, Value.ref 61]) _ _ _); k_dflt (refine' (enforce_bi ?zzhn).use ?zzkB ?zzkF ?zzkX ?zzkN ?zzkT ?zzkf ?zzkd ?zzku ⟨fun hc => hc.elim, ?_⟩; (case zzhn => assumption)); (k_extra "mine ra"); (intro hc e' g' h' tk' FG' U' R'))))
  trivial
section
theorem rd_shape0 (b : Array UInt8) (n : Int) : (∃ i, rd 0 b n = .bool i) ∨ rd 0 b n = .fin := by
  unfold rd
  split
  · exact .inl ⟨_, rfl⟩
  · exact .inr rfl
section
variable {Q E : Value → Shared → Prop} {base h₀ : Heap} {L : Addr} {m : Str → Option Value} {fr : List Env} {s : Shared} {b : Array UInt8} {news : List (Addr × Obj)} {off : Int}
theorem saysRet_reads0 (hv : ∀ i, reads 0 b off = .bool i → (0 ≤ off ∧ off ≤ 4294967295) → Rets (fun _ => .bool i) Q h₀ L m news s) (ht : reads 0 b off = .typ → ¬ (0 ≤ off ∧ off ≤ 4294967295) → Raises "TypeError" E base h₀ L m fr news s) (hf : reads 0 b off = .fin → (0 ≤ off ∧ off ≤ 4294967295) → Raises "struct.error" E base h₀ L m fr news s) : SaysRet news (reads 0 b off) Q E base h₀ L m fr s := by
  by_cases h : 0 ≤ off ∧ off ≤ 4294967295
  · have e : reads 0 b off = rd 0 b off := if_pos h
    rcases rd_shape0 b off with ⟨i, ei⟩ | ei
    · rw [e, ei] at hv ⊢
      exact hv i rfl h
    · rw [e, ei] at hf ⊢
      exact hf rfl h
  · have e : reads 0 b off = .typ := if_neg h
    rw [e] at ht ⊢
    exact ht rfl h
end
/-- Table.GetSlot -/
def slotB (b : Array UInt8) (pos v : Int) (dd : Ans) (k : Nat) : Ans := match rowB b pos v with | .int i => if i = 0 then dd else reads k b (pos + i) | e => e
section
variable {b : Array UInt8} {pos v : Int} {dd a : Ans} {k : Nat} {i : Int}
theorem slotB_t (e : rowB b pos v = .typ) : slotB b pos v dd k = .typ := by unfold slotB; rw [e]
theorem slotB_f (e : rowB b pos v = .fin) : slotB b pos v dd k = .fin := by unfold slotB; rw [e]
theorem slotB_0 (e : rowB b pos v = .int i) (hi : i = 0) : slotB b pos v dd k = dd := by unfold slotB; rw [e]; simp only [if_pos hi]
theorem slotB_i (e : rowB b pos v = .int i) (hi : ¬ i = 0) (e2 : reads k b (pos + i) = a) : slotB b pos v dd k = a := by unfold slotB; rw [e]; simp only [if_neg hi]; exact e2
theorem ifslot (c : Prop) [Decidable c] (h : c) (e : slotB b pos v dd k = a) : (if c then slotB b pos v dd k else .typ) = a := by rw [if_pos h]; exact e
end
theorem kw19 : True := by
  w_top off
  k_with "mine slot" => (first | (exact slotB_0 (by assumption) (by omega)) | (exact slotB_i (by assumption) (by omega) (by assumption)) | (exact slotB_f (by assumption)) | (exact slotB_t (by assumption)))
  k_with "mine eq" => (first | (k_extra "mine slot") | (exact ifslot _ (by omega) (by k_extra "mine slot")) | (exact if_neg (by omega)) | exact rfl)
  trivial
section
variable {w : World} {mean : ExcName → Option Value} {mg mb : Str → Option Value} {p : Program} {loose : List Str} {t t' : Tok} {news : List (Addr × Obj)} {C x dx d : Addr} {b : Array UInt8} {pos off v dd : Int} {tp : Tok} {k : Nat}
theorem gslotN_ok (hK : KindAt w C k) (hk0 : ¬ k = 0) (hC : C ≠ 199) (hC2 : C ≠ 211) (h0 : 0 ≤ pos) (h1 : pos < 2 ^ 33) (h2 : 0 ≤ v) (h3 : v < 2 ^ 16) (h4 : -(2 ^ 64 + 2) ≤ dd) (h5 : dd ≤ 2 ^ 64 + 2) (hb : b.size ≤ 64) (m1 : (x, tabObj' dx d pos tp) ∈ news) (m2 : (dx, dictOf [] 0) ∈ news) (m3 : (d, baObj b) ∈ news) :
   Calls w mean mg mb p loose 7 56 (.ref 298) [.ref x, .int v t, .int dd t', .ref C] news (SaysRet news (if loK k ≤ dd ∧ dd ≤ hiK k then slotB b pos v (.int dd) k else .typ)) := by
  unfold Calls
  k_fill
  intro dp un gd cn cs a ccd cl outer A₀ base h₀ L m s Q E B F X N T hf hd hu hret
  refine wpAny_call ?_
  k_dflt cell_enter
  k_steps
  all_goals (first | k_extra "mine end")
theorem gslot0_ok {bb : Bool} (h0 : 0 ≤ pos) (h1 : pos < 2 ^ 33) (h2 : 0 ≤ v) (h3 : v < 2 ^ 16) (hb : b.size ≤ 64) (m1 : (x, tabObj' dx d pos tp) ∈ news) (m2 : (dx, dictOf [] 0) ∈ news) (m3 : (d, baObj b) ∈ news) :
   Calls w mean mg mb p loose 7 56 (.ref 298) [.ref x, .int v t, .bool bb, .ref 61] news (SaysRet news (slotB b pos v (.bool bb) 0)) := by
  have hK := kind_61 w
  unfold Calls
  k_fill
  intro dp un gd cn cs a ccd cl outer A₀ base h₀ L m s Q E B F X N T hf hd hu hret
  refine wpAny_call ?_
  k_dflt cell_enter
  k_steps
  all_goals (first | k_extra "mine end")
theorem gslot0_bad (hn : dd = -1 ∨ dd = 2) (h0 : 0 ≤ pos) (h1 : pos < 2 ^ 33) (h2 : 0 ≤ v) (h3 : v < 2 ^ 16) (hb : b.size ≤ 64) (m1 : (x, tabObj' dx d pos tp) ∈ news) (m2 : (dx, dictOf [] 0) ∈ news) (m3 : (d, baObj b) ∈ news) :
   Calls w mean mg mb p loose 7 56 (.ref 298) [.ref x, .int v t, .int dd t', .ref 61] news (SaysRet news .typ) := by
  have hK := kind_61 w
  unfold Calls
  k_fill
  intro dp un gd cn cs a ccd cl outer A₀ base h₀ L m s Q E B F X N T hf hd hu hret
  refine wpAny_call ?_
  k_dflt cell_enter
  k_steps
  all_goals (first | k_extra "mine end")
end
end
theorem kw20 : True := by
  w_top off
  k_with_none
  k_with "k_ne" => ((try dsimp only); with_reducible first | exact Nat.ne_of_lt (by k_extra "mine lt") | exact Nat.ne_of_gt (by k_extra "mine lt") | fail)
  k_with "mine lt" => (first | assumption | (refine Nat.lt_trans (by assumption) ?_; k_extra "mine lt"))
  k_with "mine ra" => ((case zzkB => k_asm); (case zzkF => k_asm); (case zzkX => k_asm); (case zzkN => k_asm); (case zzkT => k_asm); (case zzkf => first | exact rfl | assumption); (case zzkd => ktr_room); (case zzku => ktr_units))
  k_with "mine name" => (first | (name_kind "local"; refine' nameX_L (by k_asm) (by exact rfl) ?_ (by kernel_rfl) (by kernel_rfl) (by kernel_rfl); k_whole) | (name_kind "globalImplicit"; refine' nameX_K (by k_asm) (by k_asm) (by k_asm) (by k_is) ?_ (by kernel_rfl) (by kernel_rfl) (by kernel_rfl); k_whole) | (name_kind "globalImplicit"; refine' nameX_B (by k_asm) (by k_asm) (by k_asm) (by k_is) (by boot_fast) (by decide) ?_ (by kernel_rfl) (by kernel_rfl) (by kernel_rfl); k_whole))
  k_with "m eval Name" => (k_here; k_dflt k_extra "mine name")
  k_with "k_room" => (ktr_room)
  k_with "k_units" => (ktr_units)
  k_with "m getMethod ref" => (k_here; (with_reducible show wpAny _ _ (getMethod (Value.ref _) (PySem.Str.ofString "unpack_from") _) _ _ _); (refine' method_unpack ?zzhP ?_; (case zzhP => exact (Frag.In.keeps (by k_asm) (Fr.keep (by k_asm))) _ _ (by assumption)); k_whole))
  k_with "m call builtin:_struct.Struct.unpack_from" => (k_here; ((focus (refine' unpack_call ?zzhh ?zzF ?zzN ?zzhP ?zzhd ?zzPK ?zzh0 ?zzh1 ?zzhb ?zzhw (fun hin9 T'9 t'9 h'9 tk'9 F'9 N'9 l19 => ?_) (fun hin9 h'9 tk'9 e'9 x'9 => ?_); (case zzhh => rfl); (case zzF => k_asm); (case zzN => k_asm); (case zzhP => exact (Frag.In.keeps (by k_asm) (Fr.keep (by k_asm))) _ _ (by assumption)); (case zzhd => exact News.get (by k_asm) (by k_mem)); (case zzPK => assumption); (case zzh0 => assumption); (case zzh1 => omega); (case zzhb => assumption); (case zzhw => assumption); (all_goals ((try k_lt l19))); rotate_left))))
  k_with "m leaving ref" => (k_here; (first | (refine' leave_onX rfl ?zzk1 ?zzk2 ?zzk3 ?zzk4 ?_; (case zzk3 => assumption); (case zzk1 => assumption); (case zzk4 => assumption); (case zzk2 => assumption); k_whole; intro h' R' U'; (try dsimp only at R' U' ⊢)) | (refine' leave_newN ?zzk1 ?zzk0 ?zzk2 ?zzk3 ?_; (case zzk0 => assumption); (case zzk1 => assumption); (case zzk2 => assumption); (case zzk3 => k_asm); k_whole; intro h' R' U'; (try dsimp only at R' U' ⊢)) | (refine' leave_raiseN ?zzk1 ?zzk0 ?zzk2 ?zzk3 ?_; (case zzk0 => first | assumption | (exact Heap.MadeExc.of (by assumption))); (case zzk1 => assumption); (case zzk2 => assumption); (case zzk3 => k_asm); k_whole; intro h' R' U'; (try dsimp only at R' U' ⊢))))
  k_with "m getAttr ref" => (k_here; (first | (refine' cls_val ?zzk1 ?zzk2 ?zzk3 ?zzk4 ?zzk5 ?zzk6 ?_; (case zzk1 => k_asm); (case zzk2 => k_asm); (case zzk3 => exact Flag.ty (by assumption)); (case zzk4 => exact Flag.rd (by assumption)); (case zzk5 => first | (exact Flag.mn (by assumption)) | (exact Flag.mx (by assumption)) | (exact Flag.pkt (by assumption)) | assumption); (case zzk6 => rfl); k_whole) | (refine' cls_pyt ?zzX ?zzr ?zza ?zzb ?zzT ?_; (case zza => exact Flag.pyt (by assumption)); (case zzX => exact (Frag.In.keeps (by k_asm) (Fr.keep (by k_asm)))); (case zzr => exact Flag.rd (by assumption)); (case zzb => exact Flag.pym (by assumption)); (case zzT => first | exact FF.mt_int | exact FF.mt_bool | assumption); k_whole)))
  k_with "m compareOp LtE bool int" => (refine le_bool_int ?_)
  k_with "m compareOp LtE int bool" => (refine le_int_bool ?_)
  k_with "m call ref" => (k_here; (first | ((with_reducible show wpAny _ _ (call (Value.ref 220) [Value.int _ _, Value.ref 199]) _ _ _); (focus (k_dflt (refine' (enforce_U ?zzh0 ?zzh1).use ?zzkB ?zzkF ?zzkX ?zzkN ?zzkT ?zzkf ?zzkd ?zzku ⟨(fun hc9 t'9 h'9 tk'9 F'9 N'9 => ?_), (fun hc9 e'9 g'9 h'9 tk'9 FG'9 U'9 R'9 => ?_)⟩); (k_extra "mine ra"); (case zzh0 => first | assumption | omega); (case zzh1 => first | assumption | omega); (all_goals ((try (exfalso; omega)))); rotate_left))) | ((with_reducible show wpAny _ _ (call (Value.ref 220) [Value.int _ _, Value.ref 211]) _ _ _); (focus (k_dflt (refine' (enforce_V ?zzh0 ?zzh1).use ?zzkB ?zzkF ?zzkX ?zzkN ?zzkT ?zzkf ?zzkd ?zzku ⟨(fun hc9 t'9 h'9 tk'9 F'9 N'9 => ?_), (fun hc9 e'9 g'9 h'9 tk'9 FG'9 U'9 R'9 => ?_)⟩); (k_extra "mine ra"); (case zzh0 => first | assumption | omega); (case zzh1 => first | assumption | omega); (all_goals ((try (exfalso; omega)))); rotate_left))) | ((with_reducible show wpAny _ _ (call (Value.ref 220) [Value.int _ _, Value.ref _]) _ _ _); (focus (k_dflt (refine' (enforce_k ?zzhK ?zzhk ?zzh0 ?zzh1).use ?zzkB ?zzkF ?zzkX ?zzkN ?zzkT ?zzkf ?zzkd ?zzku ⟨(fun hc9 t'9 h'9 tk'9 F'9 N'9 => ?_), (fun hc9 e'9 g'9 h'9 tk'9 FG'9 U'9 R'9 => ?_)⟩; (case zzhK => assumption); (case zzhk => assumption)); (k_extra "mine ra"); (case zzh0 => first | assumption | omega); (case zzh1 => first | assumption | omega); (all_goals ((try (exfalso; omega)))); rotate_left)))))
  k_with "m getMethod ref" => (k_here; (with_reducible show wpAny _ _ (getMethod (Value.ref _) (PySem.Str.ofString "py_type") _) _ _ _); (refine' method_of_cls ?zzF ?zzX ?zzg ?_; (case zzF => k_asm); (case zzX => k_asm); (case zzg => exact Flag.sp (by assumption)); k_whole))
  k_with "m call ref" => (k_here; (first | ((with_reducible show wpAny _ _ (call (Value.ref 227) [Value.ref 46, Value.ref _, Value.int _ _]) _ _ _); k_dflt (refine' (get_encode_U ?zzh0 ?zzh1 ?zzhb ?zzhm).use ?zzkB ?zzkF ?zzkX ?zzkN ?zzkT ?zzkf ?zzkd ?zzku ?_); (k_extra "mine ra"); (case zzhm => k_extra "mine mem"); (case zzh0 => first | assumption | omega); (case zzh1 => first | assumption | omega); (case zzhb => assumption); (first | ((focus (refine saysRet_bool (fun i9 hv9 t'9 h'9 tk'9 F'9 N'9 => ?_) (fun hv9 e'9 g'9 h'9 tk'9 FG'9 U'9 R'9 => ?_); rotate_left))) | ((focus (refine saysRet_int ?zzhk ?zzhn (fun i9 hv9 hi9 t'9 h'9 tk'9 F'9 N'9 => ?_) (fun hv9 e'9 g'9 h'9 tk'9 FG'9 U'9 R'9 => ?_); (case zzhk => first | assumption | omega | decide); (case zzhn => first | assumption | omega); (all_goals ((try simp only [loK, hiK] at hi9))); rotate_left))))) | ((with_reducible show wpAny _ _ (call (Value.ref 227) [Value.ref _, Value.ref _, Value.int _ _]) _ _ _); k_dflt (refine' (get_encode ?zzhP ?zzPK ?zzh0 ?zzh1 ?zzhb ?zzhw ?zzhm).use ?zzkB ?zzkF ?zzkX ?zzkN ?zzkT ?zzkf ?zzkd ?zzku ?_; (case zzhP => assumption); (case zzPK => assumption); (case zzhw => assumption)); (k_extra "mine ra"); (case zzhm => k_extra "mine mem"); (case zzh0 => first | assumption | omega); (case zzh1 => first | assumption | omega); (case zzhb => assumption); (first | ((focus (refine saysRet_bool (fun i9 hv9 t'9 h'9 tk'9 F'9 N'9 => ?_) (fun hv9 e'9 g'9 h'9 tk'9 FG'9 U'9 R'9 => ?_); rotate_left))) | ((focus (refine saysRet_int ?zzhk ?zzhn (fun i9 hv9 hi9 t'9 h'9 tk'9 F'9 N'9 => ?_) (fun hv9 e'9 g'9 h'9 tk'9 FG'9 U'9 R'9 => ?_); (case zzhk => first | assumption | omega | decide); (case zzhn => first | assumption | omega); (all_goals ((try simp only [loK, hiK] at hi9))); rotate_left)))))))
  k_with "m call ref" => (k_here; (first | ((with_reducible show wpAny _ _ (call (Value.ref 291) [Value.ref _, Value.ref 187, Value.int _ _]) _ _ _); k_dflt (refine' (get_S ?zzh0 ?zzh1 ?zzhb ?zzm1 ?zzm2 ?zzm3).use ?zzkB ?zzkF ?zzkX ?zzkN ?zzkT ?zzkf ?zzkd ?zzku ?_); (k_extra "mine ra"); (case zzm1 => k_extra "mine mem"); (case zzm2 => k_extra "mine mem"); (case zzm3 => k_extra "mine mem"); (case zzh0 => first | assumption | omega); (case zzh1 => first | assumption | omega); (case zzhb => assumption); (focus (refine saysRet_reads (by decide) (fun i9 hv9 hr9 hi9 t'9 h'9 tk'9 F'9 N'9 => ?_) (fun hv9 hr9 e'9 g'9 h'9 tk'9 FG'9 U'9 R'9 => ?_) (fun hv9 hr9 e'9 g'9 h'9 tk'9 FG'9 U'9 R'9 => ?_); (all_goals ((try simp only [loK, hiK] at hi9); (try (exfalso; omega))))))) | ((with_reducible show wpAny _ _ (call (Value.ref 291) [Value.ref _, Value.ref 199, Value.int _ _]) _ _ _); k_dflt (refine' (get_U ?zzh0 ?zzh1 ?zzhb ?zzm1 ?zzm2 ?zzm3).use ?zzkB ?zzkF ?zzkX ?zzkN ?zzkT ?zzkf ?zzkd ?zzku ?_); (k_extra "mine ra"); (case zzm1 => k_extra "mine mem"); (case zzm2 => k_extra "mine mem"); (case zzm3 => k_extra "mine mem"); (case zzh0 => first | assumption | omega); (case zzh1 => first | assumption | omega); (case zzhb => assumption); (focus (refine saysRet_reads (by decide) (fun i9 hv9 hr9 hi9 t'9 h'9 tk'9 F'9 N'9 => ?_) (fun hv9 hr9 e'9 g'9 h'9 tk'9 FG'9 U'9 R'9 => ?_) (fun hv9 hr9 e'9 g'9 h'9 tk'9 FG'9 U'9 R'9 => ?_); (all_goals ((try simp only [loK, hiK] at hi9); (try (exfalso; omega))))))) | ((with_reducible show wpAny _ _ (call (Value.ref 291) [Value.ref _, Value.ref 211, Value.int _ _]) _ _ _); k_dflt (refine' (get_V ?zzh0 ?zzh1 ?zzhb ?zzm1 ?zzm2 ?zzm3).use ?zzkB ?zzkF ?zzkX ?zzkN ?zzkT ?zzkf ?zzkd ?zzku ?_); (k_extra "mine ra"); (case zzm1 => k_extra "mine mem"); (case zzm2 => k_extra "mine mem"); (case zzm3 => k_extra "mine mem"); (case zzh0 => first | assumption | omega); (case zzh1 => first | assumption | omega); (case zzhb => assumption); (focus (refine saysRet_reads (by decide) (fun i9 hv9 hr9 hi9 t'9 h'9 tk'9 F'9 N'9 => ?_) (fun hv9 hr9 e'9 g'9 h'9 tk'9 FG'9 U'9 R'9 => ?_) (fun hv9 hr9 e'9 g'9 h'9 tk'9 FG'9 U'9 R'9 => ?_); (all_goals ((try simp only [loK, hiK] at hi9); (try (exfalso; omega)))))))))
  k_with "mine end" => ((rename SaysRet _ _ _ _ _ _ _ _ _ _ => hR); (first | (exact hR.int (by k_extra "mine eq") _ _ _ (by assumption) (by first | assumption | exact cb_drop (by assumption) (by kcj_in))) | (exact hR.bytes (by k_extra "mine eq") _ _ _ (by assumption) (by first | assumption | exact cb_drop (by assumption) (by kcj_in))) | (exact hR.bool (by k_extra "mine eq") 0 _ _ (by assumption) (by first | assumption | exact cb_drop (by assumption) (by kcj_in))) | (exact hR.typ (by k_extra "mine eq") _ _ _ _ (by assumption) (by assumption) (by first | assumption | exact raisedSN_weak (by assumption) (by kcj_in))) | (exact hR.fin (by k_extra "mine eq") _ _ _ _ (by assumption) (by assumption) (by first | assumption | exact raisedSN_weak (by assumption) (by kcj_in)))))
  k_with "m call ref" => (k_here; (with_reducible show wpAny _ _ (call (Value.ref 249) [Value.ref _, Value.int _ _]) _ _ _); k_dflt (refine' (offset_ok ?zzh0 ?zzh1 ?zzh2 ?zzh3 ?zzhb ?zzm1 ?zzm2 ?zzm3).use ?zzkB ?zzkF ?zzkX ?zzkN ?zzkT ?zzkf ?zzkd ?zzku ?_); (k_extra "mine ra"); (case zzm1 => k_extra "mine mem"); (case zzm2 => k_extra "mine mem"); (case zzm3 => k_extra "mine mem"); (case zzh0 => first | assumption | omega); (case zzh1 => first | assumption | omega); (case zzh2 => first | assumption | omega); (case zzh3 => first | assumption | omega); (case zzhb => assumption); refine saysRet_row (fun i9 hv9 hi9 t'9 h'9 tk'9 F'9 N'9 => ?_) (fun hv9 e'9 g'9 h'9 tk'9 FG'9 U'9 R'9 => ?_) (fun hv9 e'9 g'9 h'9 tk'9 FG'9 U'9 R'9 => ?_))
  k_with "m call ref" => (k_here; (first | ((with_reducible show wpAny _ _ (call (Value.ref 220) [Value.int _ _, Value.ref 199]) _ _ _); k_dflt (refine' (enforce_U ?zzh0 ?zzh1).use ?zzkB ?zzkF ?zzkX ?zzkN ?zzkT ?zzkf ?zzkd ?zzku ?_); (k_extra "mine ra"); (case zzh0 => first | assumption | omega); (case zzh1 => first | assumption | omega); (focus (refine ⟨(fun hc9 t'9 h'9 tk'9 F'9 N'9 => ?_), (fun hc9 e'9 g'9 h'9 tk'9 FG'9 U'9 R'9 => ?_)⟩; (all_goals ((try (exfalso; omega)))); rotate_left))) | ((with_reducible show wpAny _ _ (call (Value.ref 220) [Value.int _ _, Value.ref 211]) _ _ _); k_dflt (refine' (enforce_V ?zzh0 ?zzh1).use ?zzkB ?zzkF ?zzkX ?zzkN ?zzkT ?zzkf ?zzkd ?zzku ?_); (k_extra "mine ra"); (case zzh0 => first | assumption | omega); (case zzh1 => first | assumption | omega); (focus (refine ⟨(fun hc9 t'9 h'9 tk'9 F'9 N'9 => ?_), (fun hc9 e'9 g'9 h'9 tk'9 FG'9 U'9 R'9 => ?_)⟩; (all_goals ((try (exfalso; omega)))); rotate_left))) | ((with_reducible show wpAny _ _ (call (Value.ref 220) [Value.int _ _, Value.ref _]) _ _ _); k_dflt (refine' (enforce_k ?zzhK ?zzhk ?zzh0 ?zzh1).use ?zzkB ?zzkF ?zzkX ?zzkN ?zzkT ?zzkf ?zzkd ?zzku ?_; (case zzhK => assumption); (case zzhk => first | assumption | omega)); (k_extra "mine ra"); (case zzh0 => first | assumption | omega); (case zzh1 => first | assumption | omega); (focus (refine ⟨(fun hc9 t'9 h'9 tk'9 F'9 N'9 => ?_), (fun hc9 e'9 g'9 h'9 tk'9 FG'9 U'9 R'9 => ?_)⟩; (all_goals ((try (exfalso; omega)))); rotate_left)))))
  k_with "m call ref" => (k_here; (first | ((with_reducible show wpAny _ _ (call (Value.ref 291) [Value.ref _, Value.ref 187, Value.int _ _]) _ _ _); fail) | ((with_reducible show wpAny _ _ (call (Value.ref 291) [Value.ref _, Value.ref 199, Value.int _ _]) _ _ _); fail) | ((with_reducible show wpAny _ _ (call (Value.ref 291) [Value.ref _, Value.ref 211, Value.int _ _]) _ _ _); fail) | ((with_reducible show wpAny _ _ (call (Value.ref 291) [Value.ref _, Value.ref _, Value.int _ _]) _ _ _); k_dflt (refine' (get_okN ?zzhK ?zzhk0 ?zzhw ?zzh0 ?zzh1 ?zzhb ?zzm1 ?zzm2 ?zzm3).use ?zzkB ?zzkF ?zzkX ?zzkN ?zzkT ?zzkf ?zzkd ?zzku ?_; (case zzhK => assumption); (case zzhk0 => assumption); (case zzhw => exact wdK_le _)); (k_extra "mine ra"); (case zzm1 => k_extra "mine mem"); (case zzm2 => k_extra "mine mem"); (case zzm3 => k_extra "mine mem"); (case zzh0 => first | assumption | omega); (case zzh1 => first | assumption | omega); (case zzhb => assumption); (focus (refine saysRet_reads (by assumption) (fun i9 hv9 hr9 hi9 t'9 h'9 tk'9 F'9 N'9 => ?_) (fun hv9 hr9 e'9 g'9 h'9 tk'9 FG'9 U'9 R'9 => ?_) (fun hv9 hr9 e'9 g'9 h'9 tk'9 FG'9 U'9 R'9 => ?_); (all_goals ((try (exfalso; omega))))))) | ((with_reducible show wpAny _ _ (call (Value.ref 291) [Value.ref _, Value.ref _, Value.int _ _]) _ _ _); k_dflt (refine' (get_ok0 ?zzhK ?zzh0 ?zzh1 ?zzhb ?zzm1 ?zzm2 ?zzm3).use ?zzkB ?zzkF ?zzkX ?zzkN ?zzkT ?zzkf ?zzkd ?zzku ?_; (case zzhK => assumption)); (k_extra "mine ra"); (case zzm1 => k_extra "mine mem"); (case zzm2 => k_extra "mine mem"); (case zzm3 => k_extra "mine mem"); (case zzh0 => first | assumption | omega); (case zzh1 => first | assumption | omega); (case zzhb => assumption); (focus (refine saysRet_reads0 (fun i9 hv9 hr9 t'9 h'9 tk'9 F'9 N'9 => ?_) (fun hv9 hr9 e'9 g'9 h'9 tk'9 FG'9 U'9 R'9 => ?_) (fun hv9 hr9 e'9 g'9 h'9 tk'9 FG'9 U'9 R'9 => ?_); (all_goals ((try (exfalso; omega)))))))))
  k_with "m call ref" => (k_here; (first | ((with_reducible show wpAny _ _ (call (Value.ref 220) [Value.bool _, Value.ref 61]) _ _ _); k_dflt (refine' (enforce_bb).use ?zzkB ?zzkF ?zzkX ?zzkN ?zzkT ?zzkf ?zzkd ?zzku ⟨?_, fun hc => (hc trivial).elim⟩); (k_extra "mine ra"); (intro hc t' h' tk' F' N')) | ((with_reducible show wpAny _ _ (call (Value.ref 220) [Value.int _ _, Value.ref 61]) _ _ _); k_dflt (refine' (enforce_bi ?zzhn).use ?zzkB ?zzkF ?zzkX ?zzkN ?zzkT ?zzkf ?zzkd ?zzku ⟨fun hc => hc.elim, ?_⟩; (case zzhn => assumption)); (k_extra "mine ra"); (intro hc e' g' h' tk' FG' U' R'))))
  k_with "mine mem" => (with_reducible first | assumption | exact List.mem_cons_self | (refine List.mem_cons_of_mem _ ?_; k_extra "mine mem"))
  k_with "k_mem" => (k_extra "mine mem")
  k_with "mine eq" => (assumption)
  trivial
section
theorem all_ne {news : List (Addr × Obj)} {d x : Addr} (l1 : ∀ p ∈ news, p.1 < d) (l2 : d < x) : ∀ p ∈ news, p.1 ≠ x := fun p hp => Nat.ne_of_lt (Nat.lt_trans (l1 p hp) l2)
theorem all_ne' {news : List (Addr × Obj)} {d : Addr} (l1 : ∀ p ∈ news, p.1 < d) : ∀ p ∈ news, p.1 ≠ d := fun p hp => Nat.ne_of_lt (l1 p hp)
theorem kw21 : True := by
  w_top off
  k_with "k_all" => (with_reducible first | (exact all_ne (by assumption) (by assumption)) | (exact all_ne' (by assumption)))
  trivial
theorem far_ri {b : Array UInt8} {off i : Int} (e : reads 3 b off = .int i) : far b off = .int (off + i) := by unfold far; rw [e]
theorem far_rf {b : Array UInt8} {off : Int} (e : reads 3 b off = .fin) : far b off = .fin := by unfold far; rw [e]
theorem kw22 : True := by
  w_top off
  k_with "mine eq" => (first | (exact far_ri (by assumption)) | (exact far_rf (by assumption)) | (exact far_int (by omega) (by assumption)) | (exact far_fin (by omega) (by assumption)) | (exact far_typ (by omega)))
  k_with "k_ne" => (with_reducible first | (exact Nat.ne_of_lt (by assumption)) | (exact Nat.ne_of_gt (by assumption)))
  trivial
abbrev UnionRet (a : Ans) (d y dy : Addr) (news : List (Addr × Obj)) (Q E : Value → Shared → Prop) (base h₀ : Heap) (L : Addr) (m : Str → Option Value) (fr : List Env) (s : Shared) : Prop :=
  (∀ i t h' tk', a = .int i → Fr h₀ L h' m → News h₀ L h' ((y, tabObj' dy d i t) :: (dy, dictOf [] 0) :: news) → Q .none { s with heap := h', toks := tk' }) ∧ (a = .fin → Raises "struct.error" E base h₀ L m fr news s)
section
variable {w : World} {mean : ExcName → Option Value} {mg mb : Str → Option Value} {p : Program} {loose : List Str} {t ty tz : Tok} {news : List (Addr × Obj)} {x dx d y dy : Addr} {b : Array UInt8} {pos off v : Int} {tp : Tok}
theorem union_step (h0 : 0 ≤ off) (h1 : off < 2 ^ 20) (h2 : 0 ≤ pos) (h3 : pos < 2 ^ 20) (hb : b.size ≤ 64) (m1 : (x, tabObj' dx d pos tp) ∈ news) (m2 : (dx, dictOf [] 0) ∈ news) (m3 : (d, baObj b) ∈ news) (l1 : ∀ p ∈ news, p.1 < dy) (l2 : dy < y) :
   Calls w mean mg mb p loose 5 56 (.ref 284) [.ref x, .ref y, .int off t] ((y, { cls := .ref 309, dict := some dy, slots := #[some (.bytes #[] ty), some (.int 0 tz)] }) :: (dy, dictOf [] 0) :: news) (UnionRet (far b (off + pos)) d y dy news) := by
  unfold Calls
  k_fill
  intro dp un gd cn cs a ccd cl outer A₀ base h₀ L m s Q E B F X N T hf hd hu hret
  refine wpAny_call ?_
  k_dflt cell_enter
  k_steps
  all_goals (first | (refine hret.1 _ _ _ _ ?e (by assumption) (by assumption); k_extra "mine eq") | exact hret.2 (by k_extra "mine eq") _ _ _ _ (by assumption) (by assumption) (by first | assumption | exact raisedSN_weak (by assumption) (by kcj_in)))
theorem kw23 : True := by
  w_top off
  k_with "m call ref" => (k_here; (with_reducible show wpAny _ _ (call (Value.ref 284) [Value.ref _, Value.ref _, Value.int _ _]) _ _ _); (focus (k_dflt (refine' (union_step ?zzh0 ?zzh1 ?zzh2 ?zzh3 ?zzhb ?zzm1 ?zzm2 ?zzm3 ?zzl1 ?zzl2).use ?zzkB ?zzkF ?zzkX ?zzkN ?zzkT ?zzkf ?zzkd ?zzku ⟨(fun i9 t'9 h'9 tk'9 hv9 F'9 N'9 => ?_), (fun hv9 e'9 g'9 h'9 tk'9 FG'9 U'9 R'9 => ?_)⟩); (k_extra "mine ra"); (case zzm1 => k_extra "mine mem"); (case zzm2 => k_extra "mine mem"); (case zzm3 => k_extra "mine mem"); (case zzh0 => first | assumption | omega); (case zzh1 => first | assumption | omega); (case zzh2 => first | assumption | omega); (case zzh3 => first | assumption | omega); (case zzhb => assumption); (case zzl1 => assumption); (case zzl2 => assumption); rotate_left)))
  k_with "m compareOp Eq ref ref" => (k_here; k_dflt (refine' ba_eq ?zzhu ?zzN ?zzm ?_; (case zzN => k_asm); (case zzm => k_extra "mine mem"); (case zzhu => ktr_units)))
  trivial
theorem union_ok (h0 : 0 ≤ off) (h1 : off < 2 ^ 20) (h2 : 0 ≤ pos) (h3 : pos < 2 ^ 20) (hb : b.size ≤ 64) (m1 : (x, tabObj' dx d pos tp) ∈ news) (m2 : (dx, dictOf [] 0) ∈ news) (m3 : (d, baObj b) ∈ news) :
   Calls w mean mg mb p loose 8 80 (.ref 395) [.ref x, .int off t] news (SaysRet news (far b (off + pos))) := by
  unfold Calls
  k_fill
  intro dp un gd cn cs a ccd cl outer A₀ base h₀ L m s Q E B F X N T hf hd hu hret
  refine wpAny_call ?_
  k_dflt cell_enter
  k_steps
  all_goals (first | k_extra "mine end")
end
end
theorem kw24 : True := by
  w_top off
  k_with_none
  k_with "k_ne" => ((try dsimp only); with_reducible first | exact Nat.ne_of_lt (by k_extra "mine lt") | exact Nat.ne_of_gt (by k_extra "mine lt") | fail)
  k_with "mine lt" => (first | assumption | (refine Nat.lt_trans (by assumption) ?_; k_extra "mine lt"))
  k_with "mine ra" => ((case zzkB => k_asm); (case zzkF => k_asm); (case zzkX => k_asm); (case zzkN => k_asm); (case zzkT => k_asm); (case zzkf => first | exact rfl | assumption); (case zzkd => ktr_room); (case zzku => ktr_units))
  k_with "mine name" => (first | (name_kind "local"; refine' nameX_L (by k_asm) (by exact rfl) ?_ (by kernel_rfl) (by kernel_rfl) (by kernel_rfl); k_whole) | (name_kind "globalImplicit"; refine' nameX_K (by k_asm) (by k_asm) (by k_asm) (by k_is) ?_ (by kernel_rfl) (by kernel_rfl) (by kernel_rfl); k_whole) | (name_kind "globalImplicit"; refine' nameX_B (by k_asm) (by k_asm) (by k_asm) (by k_is) (by boot_fast) (by decide) ?_ (by kernel_rfl) (by kernel_rfl) (by kernel_rfl); k_whole))
  k_with "m eval Name" => (k_here; k_dflt k_extra "mine name")
  k_with "k_room" => (ktr_room)
  k_with "k_units" => (ktr_units)
  k_with "m getMethod ref" => (k_here; (with_reducible show wpAny _ _ (getMethod (Value.ref _) (PySem.Str.ofString "unpack_from") _) _ _ _); (refine' method_unpack ?zzhP ?_; (case zzhP => exact (Frag.In.keeps (by k_asm) (Fr.keep (by k_asm))) _ _ (by assumption)); k_whole))
  k_with "m call builtin:_struct.Struct.unpack_from" => (k_here; ((focus (refine' unpack_call ?zzhh ?zzF ?zzN ?zzhP ?zzhd ?zzPK ?zzh0 ?zzh1 ?zzhb ?zzhw (fun hin9 T'9 t'9 h'9 tk'9 F'9 N'9 l19 => ?_) (fun hin9 h'9 tk'9 e'9 x'9 => ?_); (case zzhh => rfl); (case zzF => k_asm); (case zzN => k_asm); (case zzhP => exact (Frag.In.keeps (by k_asm) (Fr.keep (by k_asm))) _ _ (by assumption)); (case zzhd => exact News.get (by k_asm) (by k_mem)); (case zzPK => assumption); (case zzh0 => assumption); (case zzh1 => omega); (case zzhb => assumption); (case zzhw => assumption); (all_goals ((try k_lt l19))); rotate_left))))
  k_with "m leaving ref" => (k_here; (first | (refine' leave_onX rfl ?zzk1 ?zzk2 ?zzk3 ?zzk4 ?_; (case zzk3 => assumption); (case zzk1 => assumption); (case zzk4 => assumption); (case zzk2 => assumption); k_whole; intro h' R' U'; (try dsimp only at R' U' ⊢)) | (refine' leave_newN ?zzk1 ?zzk0 ?zzk2 ?zzk3 ?_; (case zzk0 => assumption); (case zzk1 => assumption); (case zzk2 => assumption); (case zzk3 => k_asm); k_whole; intro h' R' U'; (try dsimp only at R' U' ⊢)) | (refine' leave_raiseN ?zzk1 ?zzk0 ?zzk2 ?zzk3 ?_; (case zzk0 => first | assumption | (exact Heap.MadeExc.of (by assumption))); (case zzk1 => assumption); (case zzk2 => assumption); (case zzk3 => k_asm); k_whole; intro h' R' U'; (try dsimp only at R' U' ⊢))))
  k_with "m getAttr ref" => (k_here; (first | (refine' cls_val ?zzk1 ?zzk2 ?zzk3 ?zzk4 ?zzk5 ?zzk6 ?_; (case zzk1 => k_asm); (case zzk2 => k_asm); (case zzk3 => exact Flag.ty (by assumption)); (case zzk4 => exact Flag.rd (by assumption)); (case zzk5 => first | (exact Flag.mn (by assumption)) | (exact Flag.mx (by assumption)) | (exact Flag.pkt (by assumption)) | assumption); (case zzk6 => rfl); k_whole) | (refine' cls_pyt ?zzX ?zzr ?zza ?zzb ?zzT ?_; (case zza => exact Flag.pyt (by assumption)); (case zzX => exact (Frag.In.keeps (by k_asm) (Fr.keep (by k_asm)))); (case zzr => exact Flag.rd (by assumption)); (case zzb => exact Flag.pym (by assumption)); (case zzT => first | exact FF.mt_int | exact FF.mt_bool | assumption); k_whole)))
  k_with "m compareOp LtE bool int" => (refine le_bool_int ?_)
  k_with "m compareOp LtE int bool" => (refine le_int_bool ?_)
  k_with "m call ref" => (k_here; (first | ((with_reducible show wpAny _ _ (call (Value.ref 220) [Value.int _ _, Value.ref 199]) _ _ _); (focus (k_dflt (refine' (enforce_U ?zzh0 ?zzh1).use ?zzkB ?zzkF ?zzkX ?zzkN ?zzkT ?zzkf ?zzkd ?zzku ⟨(fun hc9 t'9 h'9 tk'9 F'9 N'9 => ?_), (fun hc9 e'9 g'9 h'9 tk'9 FG'9 U'9 R'9 => ?_)⟩); (k_extra "mine ra"); (case zzh0 => first | assumption | omega); (case zzh1 => first | assumption | omega); (all_goals ((try (exfalso; omega)))); rotate_left))) | ((with_reducible show wpAny _ _ (call (Value.ref 220) [Value.int _ _, Value.ref 211]) _ _ _); (focus (k_dflt (refine' (enforce_V ?zzh0 ?zzh1).use ?zzkB ?zzkF ?zzkX ?zzkN ?zzkT ?zzkf ?zzkd ?zzku ⟨(fun hc9 t'9 h'9 tk'9 F'9 N'9 => ?_), (fun hc9 e'9 g'9 h'9 tk'9 FG'9 U'9 R'9 => ?_)⟩); (k_extra "mine ra"); (case zzh0 => first | assumption | omega); (case zzh1 => first | assumption | omega); (all_goals ((try (exfalso; omega)))); rotate_left))) | ((with_reducible show wpAny _ _ (call (Value.ref 220) [Value.int _ _, Value.ref _]) _ _ _); (focus (k_dflt (refine' (enforce_k ?zzhK ?zzhk ?zzh0 ?zzh1).use ?zzkB ?zzkF ?zzkX ?zzkN ?zzkT ?zzkf ?zzkd ?zzku ⟨(fun hc9 t'9 h'9 tk'9 F'9 N'9 => ?_), (fun hc9 e'9 g'9 h'9 tk'9 FG'9 U'9 R'9 => ?_)⟩; (case zzhK => assumption); (case zzhk => assumption)); (k_extra "mine ra"); (case zzh0 => first | assumption | omega); (case zzh1 => first | assumption | omega); (all_goals ((try (exfalso; omega)))); rotate_left)))))
  k_with "m getMethod ref" => (k_here; (with_reducible show wpAny _ _ (getMethod (Value.ref _) (PySem.Str.ofString "py_type") _) _ _ _); (refine' method_of_cls ?zzF ?zzX ?zzg ?_; (case zzF => k_asm); (case zzX => k_asm); (case zzg => exact Flag.sp (by assumption)); k_whole))
  k_with "m call ref" => (k_here; (first | ((with_reducible show wpAny _ _ (call (Value.ref 227) [Value.ref 46, Value.ref _, Value.int _ _]) _ _ _); k_dflt (refine' (get_encode_U ?zzh0 ?zzh1 ?zzhb ?zzhm).use ?zzkB ?zzkF ?zzkX ?zzkN ?zzkT ?zzkf ?zzkd ?zzku ?_); (k_extra "mine ra"); (case zzhm => k_extra "mine mem"); (case zzh0 => first | assumption | omega); (case zzh1 => first | assumption | omega); (case zzhb => assumption); (first | ((focus (refine saysRet_bool (fun i9 hv9 t'9 h'9 tk'9 F'9 N'9 => ?_) (fun hv9 e'9 g'9 h'9 tk'9 FG'9 U'9 R'9 => ?_); rotate_left))) | ((focus (refine saysRet_int ?zzhk ?zzhn (fun i9 hv9 hi9 t'9 h'9 tk'9 F'9 N'9 => ?_) (fun hv9 e'9 g'9 h'9 tk'9 FG'9 U'9 R'9 => ?_); (case zzhk => first | assumption | omega | decide); (case zzhn => first | assumption | omega); (all_goals ((try simp only [loK, hiK] at hi9))); rotate_left))))) | ((with_reducible show wpAny _ _ (call (Value.ref 227) [Value.ref _, Value.ref _, Value.int _ _]) _ _ _); k_dflt (refine' (get_encode ?zzhP ?zzPK ?zzh0 ?zzh1 ?zzhb ?zzhw ?zzhm).use ?zzkB ?zzkF ?zzkX ?zzkN ?zzkT ?zzkf ?zzkd ?zzku ?_; (case zzhP => assumption); (case zzPK => assumption); (case zzhw => assumption)); (k_extra "mine ra"); (case zzhm => k_extra "mine mem"); (case zzh0 => first | assumption | omega); (case zzh1 => first | assumption | omega); (case zzhb => assumption); (first | ((focus (refine saysRet_bool (fun i9 hv9 t'9 h'9 tk'9 F'9 N'9 => ?_) (fun hv9 e'9 g'9 h'9 tk'9 FG'9 U'9 R'9 => ?_); rotate_left))) | ((focus (refine saysRet_int ?zzhk ?zzhn (fun i9 hv9 hi9 t'9 h'9 tk'9 F'9 N'9 => ?_) (fun hv9 e'9 g'9 h'9 tk'9 FG'9 U'9 R'9 => ?_); (case zzhk => first | assumption | omega | decide); (case zzhn => first | assumption | omega); (all_goals ((try simp only [loK, hiK] at hi9))); rotate_left)))))))
  k_with "m call ref" => (k_here; (first | ((with_reducible show wpAny _ _ (call (Value.ref 291) [Value.ref _, Value.ref 187, Value.int _ _]) _ _ _); k_dflt (refine' (get_S ?zzh0 ?zzh1 ?zzhb ?zzm1 ?zzm2 ?zzm3).use ?zzkB ?zzkF ?zzkX ?zzkN ?zzkT ?zzkf ?zzkd ?zzku ?_); (k_extra "mine ra"); (case zzm1 => k_extra "mine mem"); (case zzm2 => k_extra "mine mem"); (case zzm3 => k_extra "mine mem"); (case zzh0 => first | assumption | omega); (case zzh1 => first | assumption | omega); (case zzhb => assumption); (focus (refine saysRet_reads (by decide) (fun i9 hv9 hr9 hi9 t'9 h'9 tk'9 F'9 N'9 => ?_) (fun hv9 hr9 e'9 g'9 h'9 tk'9 FG'9 U'9 R'9 => ?_) (fun hv9 hr9 e'9 g'9 h'9 tk'9 FG'9 U'9 R'9 => ?_); (all_goals ((try simp only [loK, hiK] at hi9); (try (exfalso; omega))))))) | ((with_reducible show wpAny _ _ (call (Value.ref 291) [Value.ref _, Value.ref 199, Value.int _ _]) _ _ _); k_dflt (refine' (get_U ?zzh0 ?zzh1 ?zzhb ?zzm1 ?zzm2 ?zzm3).use ?zzkB ?zzkF ?zzkX ?zzkN ?zzkT ?zzkf ?zzkd ?zzku ?_); (k_extra "mine ra"); (case zzm1 => k_extra "mine mem"); (case zzm2 => k_extra "mine mem"); (case zzm3 => k_extra "mine mem"); (case zzh0 => first | assumption | omega); (case zzh1 => first | assumption | omega); (case zzhb => assumption); (focus (refine saysRet_reads (by decide) (fun i9 hv9 hr9 hi9 t'9 h'9 tk'9 F'9 N'9 => ?_) (fun hv9 hr9 e'9 g'9 h'9 tk'9 FG'9 U'9 R'9 => ?_) (fun hv9 hr9 e'9 g'9 h'9 tk'9 FG'9 U'9 R'9 => ?_); (all_goals ((try simp only [loK, hiK] at hi9); (try (exfalso; omega))))))) | ((with_reducible show wpAny _ _ (call (Value.ref 291) [Value.ref _, Value.ref 211, Value.int _ _]) _ _ _); k_dflt (refine' (get_V ?zzh0 ?zzh1 ?zzhb ?zzm1 ?zzm2 ?zzm3).use ?zzkB ?zzkF ?zzkX ?zzkN ?zzkT ?zzkf ?zzkd ?zzku ?_); (k_extra "mine ra"); (case zzm1 => k_extra "mine mem"); (case zzm2 => k_extra "mine mem"); (case zzm3 => k_extra "mine mem"); (case zzh0 => first | assumption | omega); (case zzh1 => first | assumption | omega); (case zzhb => assumption); (focus (refine saysRet_reads (by decide) (fun i9 hv9 hr9 hi9 t'9 h'9 tk'9 F'9 N'9 => ?_) (fun hv9 hr9 e'9 g'9 h'9 tk'9 FG'9 U'9 R'9 => ?_) (fun hv9 hr9 e'9 g'9 h'9 tk'9 FG'9 U'9 R'9 => ?_); (all_goals ((try simp only [loK, hiK] at hi9); (try (exfalso; omega)))))))))
  k_with "mine end" => ((rename SaysRet _ _ _ _ _ _ _ _ _ _ => hR); (first | (exact hR.int (by k_extra "mine eq") _ _ _ (by assumption) (by first | assumption | exact cb_drop (by assumption) (by kcj_in))) | (exact hR.bytes (by k_extra "mine eq") _ _ _ (by assumption) (by first | assumption | exact cb_drop (by assumption) (by kcj_in))) | (exact hR.bool (by k_extra "mine eq") 0 _ _ (by assumption) (by first | assumption | exact cb_drop (by assumption) (by kcj_in))) | (exact hR.typ (by k_extra "mine eq") _ _ _ _ (by assumption) (by assumption) (by first | assumption | exact raisedSN_weak (by assumption) (by kcj_in))) | (exact hR.fin (by k_extra "mine eq") _ _ _ _ (by assumption) (by assumption) (by first | assumption | exact raisedSN_weak (by assumption) (by kcj_in)))))
  k_with "m call ref" => (k_here; (with_reducible show wpAny _ _ (call (Value.ref 249) [Value.ref _, Value.int _ _]) _ _ _); k_dflt (refine' (offset_ok ?zzh0 ?zzh1 ?zzh2 ?zzh3 ?zzhb ?zzm1 ?zzm2 ?zzm3).use ?zzkB ?zzkF ?zzkX ?zzkN ?zzkT ?zzkf ?zzkd ?zzku ?_); (k_extra "mine ra"); (case zzm1 => k_extra "mine mem"); (case zzm2 => k_extra "mine mem"); (case zzm3 => k_extra "mine mem"); (case zzh0 => first | assumption | omega); (case zzh1 => first | assumption | omega); (case zzh2 => first | assumption | omega); (case zzh3 => first | assumption | omega); (case zzhb => assumption); refine saysRet_row (fun i9 hv9 hi9 t'9 h'9 tk'9 F'9 N'9 => ?_) (fun hv9 e'9 g'9 h'9 tk'9 FG'9 U'9 R'9 => ?_) (fun hv9 e'9 g'9 h'9 tk'9 FG'9 U'9 R'9 => ?_))
  k_with "m call ref" => (k_here; (first | ((with_reducible show wpAny _ _ (call (Value.ref 220) [Value.int _ _, Value.ref 199]) _ _ _); k_dflt (refine' (enforce_U ?zzh0 ?zzh1).use ?zzkB ?zzkF ?zzkX ?zzkN ?zzkT ?zzkf ?zzkd ?zzku ?_); (k_extra "mine ra"); (case zzh0 => first | assumption | omega); (case zzh1 => first | assumption | omega); (focus (refine ⟨(fun hc9 t'9 h'9 tk'9 F'9 N'9 => ?_), (fun hc9 e'9 g'9 h'9 tk'9 FG'9 U'9 R'9 => ?_)⟩; (all_goals ((try (exfalso; omega)))); rotate_left))) | ((with_reducible show wpAny _ _ (call (Value.ref 220) [Value.int _ _, Value.ref 211]) _ _ _); k_dflt (refine' (enforce_V ?zzh0 ?zzh1).use ?zzkB ?zzkF ?zzkX ?zzkN ?zzkT ?zzkf ?zzkd ?zzku ?_); (k_extra "mine ra"); (case zzh0 => first | assumption | omega); (case zzh1 => first | assumption | omega); (focus (refine ⟨(fun hc9 t'9 h'9 tk'9 F'9 N'9 => ?_), (fun hc9 e'9 g'9 h'9 tk'9 FG'9 U'9 R'9 => ?_)⟩; (all_goals ((try (exfalso; omega)))); rotate_left))) | ((with_reducible show wpAny _ _ (call (Value.ref 220) [Value.int _ _, Value.ref _]) _ _ _); k_dflt (refine' (enforce_k ?zzhK ?zzhk ?zzh0 ?zzh1).use ?zzkB ?zzkF ?zzkX ?zzkN ?zzkT ?zzkf ?zzkd ?zzku ?_; (case zzhK => assumption); (case zzhk => first | assumption | omega)); (k_extra "mine ra"); (case zzh0 => first | assumption | omega); (case zzh1 => first | assumption | omega); (focus (refine ⟨(fun hc9 t'9 h'9 tk'9 F'9 N'9 => ?_), (fun hc9 e'9 g'9 h'9 tk'9 FG'9 U'9 R'9 => ?_)⟩; (all_goals ((try (exfalso; omega)))); rotate_left)))))
  k_with "m call ref" => (k_here; (first | ((with_reducible show wpAny _ _ (call (Value.ref 291) [Value.ref _, Value.ref 187, Value.int _ _]) _ _ _); fail) | ((with_reducible show wpAny _ _ (call (Value.ref 291) [Value.ref _, Value.ref 199, Value.int _ _]) _ _ _); fail) | ((with_reducible show wpAny _ _ (call (Value.ref 291) [Value.ref _, Value.ref 211, Value.int _ _]) _ _ _); fail) | ((with_reducible show wpAny _ _ (call (Value.ref 291) [Value.ref _, Value.ref _, Value.int _ _]) _ _ _); k_dflt (refine' (get_okN ?zzhK ?zzhk0 ?zzhw ?zzh0 ?zzh1 ?zzhb ?zzm1 ?zzm2 ?zzm3).use ?zzkB ?zzkF ?zzkX ?zzkN ?zzkT ?zzkf ?zzkd ?zzku ?_; (case zzhK => assumption); (case zzhk0 => assumption); (case zzhw => exact wdK_le _)); (k_extra "mine ra"); (case zzm1 => k_extra "mine mem"); (case zzm2 => k_extra "mine mem"); (case zzm3 => k_extra "mine mem"); (case zzh0 => first | assumption | omega); (case zzh1 => first | assumption | omega); (case zzhb => assumption); (focus (refine saysRet_reads (by assumption) (fun i9 hv9 hr9 hi9 t'9 h'9 tk'9 F'9 N'9 => ?_) (fun hv9 hr9 e'9 g'9 h'9 tk'9 FG'9 U'9 R'9 => ?_) (fun hv9 hr9 e'9 g'9 h'9 tk'9 FG'9 U'9 R'9 => ?_); (all_goals ((try (exfalso; omega))))))) | ((with_reducible show wpAny _ _ (call (Value.ref 291) [Value.ref _, Value.ref _, Value.int _ _]) _ _ _); k_dflt (refine' (get_ok0 ?zzhK ?zzh0 ?zzh1 ?zzhb ?zzm1 ?zzm2 ?zzm3).use ?zzkB ?zzkF ?zzkX ?zzkN ?zzkT ?zzkf ?zzkd ?zzku ?_; (case zzhK => assumption)); (k_extra "mine ra"); (case zzm1 => k_extra "mine mem"); (case zzm2 => k_extra "mine mem"); (case zzm3 => k_extra "mine mem"); (case zzh0 => first | assumption | omega); (case zzh1 => first | assumption | omega); (case zzhb => assumption); (focus (refine saysRet_reads0 (fun i9 hv9 hr9 t'9 h'9 tk'9 F'9 N'9 => ?_) (fun hv9 hr9 e'9 g'9 h'9 tk'9 FG'9 U'9 R'9 => ?_) (fun hv9 hr9 e'9 g'9 h'9 tk'9 FG'9 U'9 R'9 => ?_); (all_goals ((try (exfalso; omega)))))))))
  k_with "m call ref" => (k_here; (first | ((with_reducible show wpAny _ _ (call (Value.ref 220) [Value.bool _, Value.ref 61]) _ _ _); k_dflt (refine' (enforce_bb).use ?zzkB ?zzkF ?zzkX ?zzkN ?zzkT ?zzkf ?zzkd ?zzku ⟨?_, fun hc => (hc trivial).elim⟩); (k_extra "mine ra"); (intro hc t' h' tk' F' N')) | ((with_reducible show wpAny _ _ (call (Value.ref 220) [Value.int _ _, Value.ref 61]) _ _ _); k_dflt (refine' (enforce_bi ?zzhn).use ?zzkB ?zzkF ?zzkX ?zzkN ?zzkT ?zzkf ?zzkd ?zzku ⟨fun hc => hc.elim, ?_⟩; (case zzhn => assumption)); (k_extra "mine ra"); (intro hc e' g' h' tk' FG' U' R'))))
  k_with "mine mem" => (with_reducible first | assumption | exact List.mem_cons_self | (refine List.mem_cons_of_mem _ ?_; k_extra "mine mem"))
  k_with "k_mem" => (k_extra "mine mem")
  k_with "mine eq" => (assumption)
  trivial
section
/-- the law's own table of kinds -/
def kw : Nat → Int | 0 => 1 | 1 => 1 | 2 => 2 | 3 => 4 | 4 => 8 | 5 => 1 | 6 => 2 | 7 => 4 | _ => 8
def kl : Nat → Int | 0 => 0 | 1 => 0 | 2 => 0 | 3 => 0 | 4 => 0 | 5 => -128 | 6 => -32768 | 7 => -2147483648 | _ => -9223372036854775808
def kh : Nat → Int | 0 => 1 | 1 => 255 | 2 => 65535 | 3 => 4294967295 | 4 => 18446744073709551615 | 5 => 127 | 6 => 32767 | 7 => 2147483647 | _ => 9223372036854775807
abbrev tup3 (a b c : Int) (t u v : Tok) : Obj := { cls := .type "tuple", data := .seq #[.int a t, .int b u, .int c v] }
abbrev kindsList (D : Nat → Addr) : Obj := listOf [.ref (D 0), .ref (D 1), .ref (D 2), .ref (D 3), .ref (D 4), .ref (D 5), .ref (D 6), .ref (D 7), .ref (D 8)].toArray 0
def KindsHave (h₀ : Heap) (L : Addr) (h : Heap) (news : List (Addr × Obj)) (D : Nat → Addr) : Prop := ∀ k, k < 9 → ∃ t u v, News h₀ L h ((D k, tup3 (kw k) (kl k) (kh k) t u v) :: news)
abbrev KindsRet (news : List (Addr × Obj)) (Q E : Value → Shared → Prop) (base h₀ : Heap) (L : Addr) (m : Str → Option Value) (fr : List Env) (s : Shared) : Prop :=
  ∀ (l : Addr) (D : Nat → Addr) h' tk', Fr h₀ L h' m → News h₀ L h' ((l, kindsList D) :: news) → KindsHave h₀ L h' news D → Q (.ref l) { s with heap := h', toks := tk' }
theorem kindsHave_mk {h₀ h : Heap} {L : Addr} {news : List (Addr × Obj)} {D0 D1 D2 D3 D4 D5 D6 D7 D8 : Addr} {l : List (Addr × Obj)} (N : News h₀ L h l) (hs : ∀ q ∈ news, q ∈ l)
    (h0 : ∃ t u v, (D0, tup3 1 0 1 t u v) ∈ l) (h1 : ∃ t u v, (D1, tup3 1 0 255 t u v) ∈ l) (h2 : ∃ t u v, (D2, tup3 2 0 65535 t u v) ∈ l) (h3 : ∃ t u v, (D3, tup3 4 0 4294967295 t u v) ∈ l) (h4 : ∃ t u v, (D4, tup3 8 0 18446744073709551615 t u v) ∈ l)
    (h5 : ∃ t u v, (D5, tup3 1 (-128) 127 t u v) ∈ l) (h6 : ∃ t u v, (D6, tup3 2 (-32768) 32767 t u v) ∈ l) (h7 : ∃ t u v, (D7, tup3 4 (-2147483648) 2147483647 t u v) ∈ l) (h8 : ∃ t u v, (D8, tup3 8 (-9223372036854775808) 9223372036854775807 t u v) ∈ l) :
    KindsHave h₀ L h news (fun k => [D0, D1, D2, D3, D4, D5, D6, D7, D8].getD k 0) := by
  have key : ∀ q, q ∈ l → News h₀ L h (q :: news) := fun q hq p hp => by
    rcases List.mem_cons.mp hp with rfl | hp
    · exact N _ hq
    · exact N _ (hs _ hp)
  intro k hk
  have hk9 := lt9 k hk
  rcases hk9 with rfl | rfl | rfl | rfl | rfl | rfl | rfl | rfl | rfl
  · obtain ⟨t, u, v, h⟩ := h0; exact ⟨t, u, v, key _ h⟩
  · obtain ⟨t, u, v, h⟩ := h1; exact ⟨t, u, v, key _ h⟩
  · obtain ⟨t, u, v, h⟩ := h2; exact ⟨t, u, v, key _ h⟩
  · obtain ⟨t, u, v, h⟩ := h3; exact ⟨t, u, v, key _ h⟩
  · obtain ⟨t, u, v, h⟩ := h4; exact ⟨t, u, v, key _ h⟩
  · obtain ⟨t, u, v, h⟩ := h5; exact ⟨t, u, v, key _ h⟩
  · obtain ⟨t, u, v, h⟩ := h6; exact ⟨t, u, v, key _ h⟩
  · obtain ⟨t, u, v, h⟩ := h7; exact ⟨t, u, v, key _ h⟩
  · obtain ⟨t, u, v, h⟩ := h8; exact ⟨t, u, v, key _ h⟩
section
variable {prog : Program} {w : World} {A : Around} {E : Value → Shared → Prop} {s : Shared} {value slice : PySem.Expr} {h₀ : Heap} {L l : Addr} {news news' : List (Addr × Obj)} {D : Nat → Addr} {k : Int} {u : Tok} {Q : Value → Shared → Prop}
theorem kinds_item (N : News h₀ L s.heap news) (hm : (l, kindsList D) ∈ news) (hK : KindsHave h₀ L s.heap news' D) (h0 : 0 ≤ k) (h1 : k < 9) {W : Int} (hW : kw k.toNat = W)
    (h : ∀ a b c, News h₀ L s.heap ((D k.toNat, tup3 W (kl k.toNat) (kh k.toNat) a b c) :: news') → Q (.ref (D k.toNat)) s)
    (hs : subscripted slice false (.ref l) (.int k u) = operate [.ref l, .int k u] (getItem (.ref l) (.int k u)) := by with_unfolding_all rfl) :
    wpAny (model prog w) A (subscriptTail value slice (.ref l) (.int k u)) Q E s := by
  subst hW
  have hl : s.heap.IsList l [.ref (D 0), .ref (D 1), .ref (D 2), .ref (D 3), .ref (D 4), .ref (D 5), .ref (D 6), .ref (D 7), .ref (D 8)].toArray := ⟨_, N.get hm, rfl, _, rfl⟩
  obtain ⟨a, b, c, H⟩ := hK k.toNat (by omega)
  obtain ⟨n, rfl⟩ : ∃ n : Nat, k = n := ⟨k.toNat, by omega⟩
  have hk9 := lt9 n (by omega)
  refine item_litK hl h0 (by omega) ?_ (h a b c H) hs
  rcases hk9 with rfl | rfl | rfl | rfl | rfl | rfl | rfl | rfl | rfl <;> rfl
end
section
variable {w : World} {mean : ExcName → Option Value} {mg mb : Str → Option Value} {p : Program} {loose : List Str} {news : List (Addr × Obj)}
theorem kindsRet_use {Q E : Value → Shared → Prop} {base h₀ h' : Heap} {L l : Addr} {m : Str → Option Value} {fr : List Env} {s : Shared} {tk' : Nat} {D0 D1 D2 D3 D4 D5 D6 D7 D8 : Addr} {t0 u0 v0 t1 u1 v1 t2 u2 v2 t3 u3 v3 t4 u4 v4 t5 u5 v5 t6 u6 v6 t7 u7 v7 t8 u8 v8 : Tok} (hret : KindsRet news Q E base h₀ L m fr s) (F : Fr h₀ L h' m)
    (N : News h₀ L h' ((l, listOf [.ref D0, .ref D1, .ref D2, .ref D3, .ref D4, .ref D5, .ref D6, .ref D7, .ref D8].toArray 0) :: (D8, tup3 8 (-9223372036854775808) 9223372036854775807 t8 u8 v8) :: (D7, tup3 4 (-2147483648) 2147483647 t7 u7 v7) :: (D6, tup3 2 (-32768) 32767 t6 u6 v6) :: (D5, tup3 1 (-128) 127 t5 u5 v5) :: (D4, tup3 8 0 18446744073709551615 t4 u4 v4) :: (D3, tup3 4 0 4294967295 t3 u3 v3) :: (D2, tup3 2 0 65535 t2 u2 v2) :: (D1, tup3 1 0 255 t1 u1 v1) :: (D0, tup3 1 0 1 t0 u0 v0) :: news)) : Q (.ref l) { s with heap := h', toks := tk' } := by
  refine hret l (fun k => [D0, D1, D2, D3, D4, D5, D6, D7, D8].getD k 0) _ _ F (cb_drop N ?_) (kindsHave_mk N ?_ ?_ ?_ ?_ ?_ ?_ ?_ ?_ ?_ ?_)
  all_goals (first | kcj_in | exact ⟨_, _, _, by with_reducible k_extra "mine mem"⟩)
theorem kinds_ok : Calls w mean mg mb p loose 2 40 (.ref 320) [] news (KindsRet news) := by
  unfold Calls
  k_fill
  intro dp un gd cn cs a ccd cl outer A₀ base h₀ L m s Q E B F X N T hf hd hu hret
  refine wpAny_call ?_
  k_dflt cell_enter
  k_steps
  exact kindsRet_use hret (by assumption) (by assumption)
end
end
section
/-- the octets as whole numbers -/
def ocs (b : Array UInt8) : List Int := b.toList.map fun x => (x.toNat : Int)
def leL (l : List UInt8) : Nat := l.foldr (fun c n => n * 256 + c.toNat) 0
theorem ocs_len (b : Array UInt8) : (ocs b).length = b.size := by simp [ocs]
theorem leL_step {b : Array UInt8} {p w : Nat} (h : p < b.size) : (leL ((b.toList.drop p).take (w + 1)) : Int) = (ocs b).getD p 0 + 256 * (leL ((b.toList.drop (p + 1)).take w) : Int) := by
  have hp : p < b.toList.length := by simpa using h
  rw [List.drop_eq_getElem_cons hp]
  have e : (ocs b).getD p 0 = ((b.toList[p]'hp).toNat : Int) := by
    unfold ocs
    rw [List.getD_eq_getElem?_getD, List.getElem?_map, List.getElem?_eq_getElem hp]
    rfl
  rw [e]
  simp only [List.take_succ_cons, leL, List.foldr_cons]
  omega
theorem leL_zero {b : Array UInt8} {p : Nat} : (leL ((b.toList.drop p).take 0) : Int) = 0 := by simp [leL]
theorem le_leL {b : Array UInt8} {p w : Nat} : Builtin.Memoryview.littleEndian (b.extract p (p + w)) = leL ((b.toList.drop p).take w) := by
  unfold Builtin.Memoryview.littleEndian leL
  rw [← Array.foldr_toList, Array.toList_extract, List.extract_eq_drop_take]
  simp
theorem kw_wd {k : Nat} (hk : k < 9) : kw k = (wdK k : Int) := by
  exact (by decide : ∀ k : Nat, k < 9 → kw k = (wdK k : Int)) k hk
theorem decode_law {k le : Nat} (hk : k < 9) {Y : Int} (hY : ((le : Int) > kh k ∧ kl k < 0 ∧ Y = le - 256 ^ (kw k).toNat) ∨ (¬ ((le : Int) > kh k ∧ kl k < 0) ∧ Y = le)) :
    decode k le = if k = 0 then .bool (Y != 0) else .int Y := by
  have hk9 := lt9 k hk
  rcases hk9 with rfl | rfl | rfl | rfl | rfl | rfl | rfl | rfl | rfl
  · have e : Y = le := by
      rcases hY with ⟨_, h, _⟩ | ⟨_, h⟩
      · exact absurd h (by decide)
      · exact h
    subst e
    simp only [decode, if_true]
    congr 1
    rw [Bool.eq_iff_iff]; simp
  all_goals
    unfold decode
    simp only [if_neg (show ¬ (1 : Nat) = 0 by decide), if_neg (show ¬ (2 : Nat) = 0 by decide), if_neg (show ¬ (3 : Nat) = 0 by decide), if_neg (show ¬ (4 : Nat) = 0 by decide), if_neg (show ¬ (5 : Nat) = 0 by decide), if_neg (show ¬ (6 : Nat) = 0 by decide), if_neg (show ¬ (7 : Nat) = 0 by decide), if_neg (show ¬ (8 : Nat) = 0 by decide)]
    congr 1
    simp only [kw, kl, kh, wdK] at *
    simp (decide := true) only [true_and, false_and, and_true, if_false, Nat.reduceMul, Nat.reduceSub, Nat.reducePow, Int.reducePow, Int.reduceToNat, not_false_eq_true, and_false, false_or] at *
    (try split)
    all_goals omega
theorem rd_fin' {k place W : Int} {b : Array UInt8} (hk0 : 0 ≤ k) (hk1 : k < 9) (hW : kw k.toNat = W) (h : place + W > (ocs b).length) : rd k.toNat b place = .fin := by
  unfold rd
  rw [if_neg]
  rw [← kw_wd (by omega), hW]
  rw [ocs_len] at h
  omega
theorem rd_val {k place W X Y : Int} {b : Array UInt8} (hk0 : 0 ≤ k) (hk1 : k < 9) (h0 : 0 ≤ place) (hW : kw k.toNat = W) (h : ¬ place + W > (ocs b).length)
    (hY : (X > kh k.toNat ∧ kl k.toNat < 0 ∧ Y = X - 256 ^ W.toNat) ∨ (¬ (X > kh k.toNat ∧ kl k.toNat < 0) ∧ Y = X)) (hX : (∀ i : Nat, (place + (0 + (i : Int))).toNat = place.toNat + i) → place.toNat + W.toNat ≤ b.size → (leL ((b.toList.drop place.toNat).take W.toNat) : Int) = X) : rd k.toNat b place = if k.toNat = 0 then .bool (Y != 0) else .int Y := by
  unfold rd
  have hwd : W = (wdK k.toNat : Int) := by rw [← hW, kw_wd (by omega)]
  rw [ocs_len] at h
  rw [if_pos (by omega), le_leL]
  refine decode_law (by omega) ?_
  have hX := hX (fun i => by omega) (by omega)
  subst hX
  rw [hW]
  have e : W.toNat = wdK k.toNat := by omega
  rw [e] at hY ⊢
  exact hY
theorem rd_int {k place W X Y : Int} {b : Array UInt8} (hk0 : 0 ≤ k) (hk1 : k < 9) (h0 : 0 ≤ place) (hW : kw k.toNat = W) (h : ¬ place + W > (ocs b).length) (hk : ¬ k = 0)
    (hY : (X > kh k.toNat ∧ kl k.toNat < 0 ∧ Y = X - 256 ^ W.toNat) ∨ (¬ (X > kh k.toNat ∧ kl k.toNat < 0) ∧ Y = X)) (hX : (∀ i : Nat, (place + (0 + (i : Int))).toNat = place.toNat + i) → place.toNat + W.toNat ≤ b.size → (leL ((b.toList.drop place.toNat).take W.toNat) : Int) = X) : rd k.toNat b place = .int Y := by
  rw [rd_val hk0 hk1 h0 hW h hY hX, if_neg (by omega)]
theorem rd_bool {k place W X Y : Int} {b : Array UInt8} (hk0 : 0 ≤ k) (hk1 : k < 9) (h0 : 0 ≤ place) (hW : kw k.toNat = W) (h : ¬ place + W > (ocs b).length) (hk : k = 0)
    (hY : (X > kh k.toNat ∧ kl k.toNat < 0 ∧ Y = X - 256 ^ W.toNat) ∨ (¬ (X > kh k.toNat ∧ kl k.toNat < 0) ∧ Y = X)) (hX : (∀ i : Nat, (place + (0 + (i : Int))).toNat = place.toNat + i) → place.toNat + W.toNat ≤ b.size → (leL ((b.toList.drop place.toNat).take W.toNat) : Int) = X) : rd k.toNat b place = .bool (Y != 0) := by
  rw [rd_val hk0 hk1 h0 hW h hY hX, if_pos (by omega)]
section
variable {Q : Value → Shared → Prop} {h₀ : Heap} {L : Addr} {m : Str → Option Value} {s : Shared} {news : List (Addr × Obj)} {a : Ans}
theorem rets_int {i : Int} (h : Rets a.val Q h₀ L m news s) (e : a = .int i) : Rets (fun t => .int i t) Q h₀ L m news s := by subst e; exact h
theorem rets_bool {i : Bool} (h : Rets a.val Q h₀ L m news s) (e : a = .bool i) : Rets (fun _ => .bool i) Q h₀ L m news s := by subst e; exact h
theorem rets_bytes {i : Array UInt8} (h : Rets a.val Q h₀ L m news s) (e : a = .bytes i) : Rets (fun t => .bytes i t) Q h₀ L m news s := by subst e; exact h
theorem rets_typ (h : Rets a.val Q h₀ L m news s) (e : a = .typ) : Rets (fun t => .str (Str.ofString "type") t) Q h₀ L m news s := by subst e; exact h
theorem rets_fin (h : Rets a.val Q h₀ L m news s) (e : a = .fin) : Rets (fun t => .str (Str.ofString "end") t) Q h₀ L m news s := by subst e; exact h
end
theorem tnP {place : Int} (h0 : 0 ≤ place) (i : Nat) : (place + (0 + (i : Int))).toNat = place.toNat + i := by omega
theorem tn0 (i : Nat) : (0 + (i : Int)).toNat = i := by omega
end
theorem kw25 : True := by
  w_top off
  k_with "m call ref" => (k_here; (with_reducible show wpAny _ _ (call (Value.ref 320) _) _ _ _); k_dflt (refine' (kinds_ok).use ?zzkB ?zzkF ?zzkX ?zzkN ?zzkT ?zzkf ?zzkd ?zzku ?_); (k_extra "mine ra"); intro l' D' h' tk' F' N' K')
  k_with "m subscriptTail" => (k_here; (with_reducible show wpAny _ _ (subscriptTail _ _ (Value.ref _) (Value.int _ _)) _ _ _); (with_unfolding_all (refine' kinds_item ?zzN ?zzm ?zzK ?zzh0 ?zzh1 ?zzhW ?_ ?zzhs); (case zzN => k_asm); (case zzm => k_extra "mine mem"); (case zzK => k_asm); (case zzh0 => first | assumption | omega); (case zzh1 => first | assumption | omega); (case zzhW => first | assumption | exact rfl); (case zzhs => with_unfolding_all rfl); k_whole); intro a' b' c' N')
  k_with "m UnrEnd" => (k_dflt (refine' unrEnd_tail ?zzF ?zzN ?zzoff ?_; (case zzF => k_asm); (case zzN => k_asm); (case zzoff => exact fun p hp => Nat.ne_of_lt (ktn_ltOf (by assumption) p hp)); k_whole))
  trivial
section
theorem unrEnd_tail {h₀ : Heap} {L I : Addr} {it : Obj} {rest : (Str → Option Value) → List (Addr × Obj) → Prop} {s₁ : Shared} {h' : Heap} {tk : Nat} {m' : Str → Option Value} {news' : List (Addr × Obj)} (F : Fr h₀ L h' m') (N : News h₀ L h' ((I, it) :: news'))
    (off : ∀ p ∈ news', p.1 ≠ I) (r : rest m' news') : UnrEnd h₀ L s₁ I it rest { s₁ with heap := h', toks := tk } := UnrEnd.intro F N news' (fun _ hp => hp) off r
theorem news_dup {h₀ h : Heap} {L : Addr} {news : List (Addr × Obj)} {q : Addr × Obj} (N : News h₀ L h news) (hm : q ∈ news) : News h₀ L h (q :: news) := fun p hp => by
  rcases List.mem_cons.mp hp with rfl | hp
  · exact N _ hm
  · exact N _ hp
def accO (xs : List Int) (pl : Int) (pre : List Int) : Int := (pre.map fun j => xs.getD (pl + j).toNat 0 * 256 ^ j.toNat).sum
theorem accO_nil {xs : List Int} {pl : Int} : (0 : Int) = accO xs pl [] := rfl
theorem accO_snoc {xs : List Int} {pl k n : Int} {pre : List Int} (h : n = accO xs pl pre) : n + xs.getD (pl + k).toNat 0 * 256 ^ k.toNat = accO xs pl (pre ++ [k]) := by
  subst h; simp [accO]
theorem sum_mul (c : Int) (f : Nat → Int) : ∀ l : List Nat, c * (l.map f).sum = (l.map fun i => c * f i).sum
  | [] => by simp
  | a :: l => by simp only [List.map_cons, List.sum_cons, Int.mul_add, sum_mul c f l]
theorem leL_sum {b : Array UInt8} : ∀ {n p : Nat}, p + n ≤ b.size → (leL ((b.toList.drop p).take n) : Int) = ((List.range n).map fun i => (ocs b).getD (p + i) 0 * 256 ^ i).sum
  | 0, _, _ => by simp [leL]
  | n + 1, p, h => by
    rw [leL_step (by omega), leL_sum (n := n) (p := p + 1) (by omega), List.range_succ_eq_map, List.map_cons, List.sum_cons, List.map_map, sum_mul]
    congr 1
    · simp
    · congr 1
      refine List.map_congr_left fun i _ => ?_
      show 256 * ((ocs b).getD (p + 1 + i) 0 * 256 ^ i) = (ocs b).getD (p + (i + 1)) 0 * 256 ^ (i + 1)
      rw [show p + 1 + i = p + (i + 1) by omega, Int.pow_succ, Int.mul_comm, Int.mul_assoc]
theorem acc_le {b : Array UInt8} {place : Int} {n : Nat} (h0 : 0 ≤ place) (hq : place.toNat + n ≤ b.size) : (leL ((b.toList.drop place.toNat).take n) : Int) = accO (ocs b) place (rangeKs 0 n) := by
  rw [leL_sum hq]
  unfold accO rangeKs
  rw [List.map_map]
  congr 1
  refine List.map_congr_left fun i _ => ?_
  show (ocs b).getD (place.toNat + i) 0 * 256 ^ i = (ocs b).getD (place + (0 + (i : Int))).toNat 0 * 256 ^ (0 + (i : Int)).toNat
  rw [tnP h0, tn0]
theorem oct_ok (b : Array UInt8) (i : Nat) (a : Int) : IntMulOk ((ocs b).getD i 0) a := by
  have h : 0 ≤ (ocs b).getD i 0 ∧ (ocs b).getD i 0 < 256 := by
    unfold ocs
    rw [List.getD_eq_getElem?_getD, List.getElem?_map]
    cases b.toList[i]? with
    | none => exact ⟨by decide, by decide⟩
    | some x => have := x.toNat_lt; exact ⟨Int.natCast_nonneg _, by show ((x.toNat : Nat) : Int) < 256; omega⟩
  exact IntMulOk.of_left (PySem.intBits_le_iff.mpr (by omega))
theorem kw26 : True := by
  w_top off
  k_with "mine hy" => (first | (exact .inl ⟨by first | assumption | omega, by first | assumption | omega, rfl⟩) | (exact .inr ⟨by omega, rfl⟩))
  k_with "m binaryOp Mult int int" => (with_reducible refine mul_int ?_ (oct_ok _ _ _))
  k_with "state" => (first | exact accO_nil | (exact accO_snoc (by assumption)))
  k_with "m pyIter ref" => (k_state_given ["octets", "place"] (fun xs pl pre n => n = accO xs pl pre) "n")
  trivial
section
variable {w : World} {mean : ExcName → Option Value} {mg mb : Str → Option Value} {p : Program} {loose : List Str} {news : List (Addr × Obj)} {lo : Addr} {vs : List Value} {c : Nat} {b : Array UInt8} {place k : Int} {tp tk : Tok}
theorem number_g {W : Int} (hW : kw k.toNat = W) (hW1 : 1 ≤ W) (hW8 : W ≤ 8) (h0 : 0 ≤ place) (h1 : place < 2 ^ 40) (hk0 : 0 ≤ k) (hk1 : k < 9) (hb : b.size ≤ 64) (hi : IntsAre vs (ocs b)) (m1 : (lo, listOf vs.toArray c) ∈ news) :
    Calls w mean mg mb p loose 4 60 (.ref 339) [.ref lo, .int place tp, .int k tk] news (fun Q E base h₀ L m fr s => Rets (rd k.toNat b place).val Q h₀ L m news s) := by
  have hlen : (ocs b).length ≤ 64 := by rw [ocs_len]; exact hb
  have hsz := ocs_len b
  unfold Calls
  k_fill
  intro dp un gd cn cs a ccd cl outer A₀ base h₀ L m s Q E B F X N T hf hd hu hret
  replace N := news_dup N m1
  refine wpAny_call ?_
  k_dflt cell_enter
  k_steps
  all_goals (try (simp only [Int.sub_zero] at kInv; subst kInv))
  all_goals (first
    | ((with_reducible show Q (Value.str _ _) _); exact rets_fin hret (rd_fin' hk0 hk1 hW (by assumption)) _ _ _ (by assumption) (cb_drop (by assumption) (by kcj_in)))
    | exact rets_int hret (rd_int hk0 hk1 h0 hW (by first | assumption | omega) (by first | assumption | omega) (by k_extra "mine hy") fun _ hq => acc_le h0 hq) _ _ _ (by assumption) (cb_drop (by assumption) (by kcj_in))
    | exact rets_bool hret (rd_bool hk0 hk1 h0 hW (by first | assumption | omega) (by first | assumption | omega) (by k_extra "mine hy") fun _ hq => acc_le h0 hq) 0 _ _ (by assumption) (cb_drop (by assumption) (by kcj_in)))
theorem number_ok (h0 : 0 ≤ place) (h1 : place < 2 ^ 40) (hk0 : 0 ≤ k) (hk1 : k < 9) (hb : b.size ≤ 64) (hi : IntsAre vs (ocs b)) (m1 : (lo, listOf vs.toArray c) ∈ news) :
    Calls w mean mg mb p loose 4 60 (.ref 339) [.ref lo, .int place tp, .int k tk] news (fun Q E base h₀ L m fr s => Rets (rd k.toNat b place).val Q h₀ L m news s) := by
  have hk9 := lt9 k.toNat (by omega)
  rcases hk9 with e | e | e | e | e | e | e | e | e
  · exact number_g (W := 1) (by rw [e]; rfl) (by decide) (by decide) h0 h1 hk0 hk1 hb hi m1
  · exact number_g (W := 1) (by rw [e]; rfl) (by decide) (by decide) h0 h1 hk0 hk1 hb hi m1
  · exact number_g (W := 2) (by rw [e]; rfl) (by decide) (by decide) h0 h1 hk0 hk1 hb hi m1
  · exact number_g (W := 4) (by rw [e]; rfl) (by decide) (by decide) h0 h1 hk0 hk1 hb hi m1
  · exact number_g (W := 8) (by rw [e]; rfl) (by decide) (by decide) h0 h1 hk0 hk1 hb hi m1
  · exact number_g (W := 1) (by rw [e]; rfl) (by decide) (by decide) h0 h1 hk0 hk1 hb hi m1
  · exact number_g (W := 2) (by rw [e]; rfl) (by decide) (by decide) h0 h1 hk0 hk1 hb hi m1
  · exact number_g (W := 4) (by rw [e]; rfl) (by decide) (by decide) h0 h1 hk0 hk1 hb hi m1
  · exact number_g (W := 8) (by rw [e]; rfl) (by decide) (by decide) h0 h1 hk0 hk1 hb hi m1
end
end
theorem kw27 : True := by
  w_top off
  k_with_none
  k_with "k_ne" => ((try dsimp only); with_reducible first | exact Nat.ne_of_lt (by k_extra "mine lt") | exact Nat.ne_of_gt (by k_extra "mine lt") | fail)
  k_with "mine lt" => (first | assumption | (refine Nat.lt_trans (by assumption) ?_; k_extra "mine lt"))
  k_with "mine ra" => ((case zzkB => k_asm); (case zzkF => k_asm); (case zzkX => k_asm); (case zzkN => k_asm); (case zzkT => k_asm); (case zzkf => first | exact rfl | assumption); (case zzkd => ktr_room); (case zzku => ktr_units))
  k_with "mine name" => (first | (name_kind "local"; refine' nameX_L (by k_asm) (by exact rfl) ?_ (by kernel_rfl) (by kernel_rfl) (by kernel_rfl); k_whole) | (name_kind "globalImplicit"; refine' nameX_K (by k_asm) (by k_asm) (by k_asm) (by k_is) ?_ (by kernel_rfl) (by kernel_rfl) (by kernel_rfl); k_whole) | (name_kind "globalImplicit"; refine' nameX_B (by k_asm) (by k_asm) (by k_asm) (by k_is) (by boot_fast) (by decide) ?_ (by kernel_rfl) (by kernel_rfl) (by kernel_rfl); k_whole))
  k_with "m eval Name" => (k_here; k_dflt k_extra "mine name")
  k_with "k_room" => (ktr_room)
  k_with "k_units" => (ktr_units)
  k_with "m getMethod ref" => (k_here; (with_reducible show wpAny _ _ (getMethod (Value.ref _) (PySem.Str.ofString "unpack_from") _) _ _ _); (refine' method_unpack ?zzhP ?_; (case zzhP => exact (Frag.In.keeps (by k_asm) (Fr.keep (by k_asm))) _ _ (by assumption)); k_whole))
  k_with "m call builtin:_struct.Struct.unpack_from" => (k_here; ((focus (refine' unpack_call ?zzhh ?zzF ?zzN ?zzhP ?zzhd ?zzPK ?zzh0 ?zzh1 ?zzhb ?zzhw (fun hin9 T'9 t'9 h'9 tk'9 F'9 N'9 l19 => ?_) (fun hin9 h'9 tk'9 e'9 x'9 => ?_); (case zzhh => rfl); (case zzF => k_asm); (case zzN => k_asm); (case zzhP => exact (Frag.In.keeps (by k_asm) (Fr.keep (by k_asm))) _ _ (by assumption)); (case zzhd => exact News.get (by k_asm) (by k_mem)); (case zzPK => assumption); (case zzh0 => assumption); (case zzh1 => omega); (case zzhb => assumption); (case zzhw => assumption); (all_goals ((try k_lt l19))); rotate_left))))
  k_with "m leaving ref" => (k_here; (first | (refine' leave_onX rfl ?zzk1 ?zzk2 ?zzk3 ?zzk4 ?_; (case zzk3 => assumption); (case zzk1 => assumption); (case zzk4 => assumption); (case zzk2 => assumption); k_whole; intro h' R' U'; (try dsimp only at R' U' ⊢)) | (refine' leave_newN ?zzk1 ?zzk0 ?zzk2 ?zzk3 ?_; (case zzk0 => assumption); (case zzk1 => assumption); (case zzk2 => assumption); (case zzk3 => k_asm); k_whole; intro h' R' U'; (try dsimp only at R' U' ⊢)) | (refine' leave_raiseN ?zzk1 ?zzk0 ?zzk2 ?zzk3 ?_; (case zzk0 => first | assumption | (exact Heap.MadeExc.of (by assumption))); (case zzk1 => assumption); (case zzk2 => assumption); (case zzk3 => k_asm); k_whole; intro h' R' U'; (try dsimp only at R' U' ⊢))))
  k_with "m getAttr ref" => (k_here; (first | (refine' cls_val ?zzk1 ?zzk2 ?zzk3 ?zzk4 ?zzk5 ?zzk6 ?_; (case zzk1 => k_asm); (case zzk2 => k_asm); (case zzk3 => exact Flag.ty (by assumption)); (case zzk4 => exact Flag.rd (by assumption)); (case zzk5 => first | (exact Flag.mn (by assumption)) | (exact Flag.mx (by assumption)) | (exact Flag.pkt (by assumption)) | assumption); (case zzk6 => rfl); k_whole) | (refine' cls_pyt ?zzX ?zzr ?zza ?zzb ?zzT ?_; (case zza => exact Flag.pyt (by assumption)); (case zzX => exact (Frag.In.keeps (by k_asm) (Fr.keep (by k_asm)))); (case zzr => exact Flag.rd (by assumption)); (case zzb => exact Flag.pym (by assumption)); (case zzT => first | exact FF.mt_int | exact FF.mt_bool | assumption); k_whole)))
  k_with "m compareOp LtE bool int" => (refine le_bool_int ?_)
  k_with "m compareOp LtE int bool" => (refine le_int_bool ?_)
  k_with "m call ref" => (k_here; (first | ((with_reducible show wpAny _ _ (call (Value.ref 220) [Value.int _ _, Value.ref 199]) _ _ _); (focus (k_dflt (refine' (enforce_U ?zzh0 ?zzh1).use ?zzkB ?zzkF ?zzkX ?zzkN ?zzkT ?zzkf ?zzkd ?zzku ⟨(fun hc9 t'9 h'9 tk'9 F'9 N'9 => ?_), (fun hc9 e'9 g'9 h'9 tk'9 FG'9 U'9 R'9 => ?_)⟩); (k_extra "mine ra"); (case zzh0 => first | assumption | omega); (case zzh1 => first | assumption | omega); (all_goals ((try (exfalso; omega)))); rotate_left))) | ((with_reducible show wpAny _ _ (call (Value.ref 220) [Value.int _ _, Value.ref 211]) _ _ _); (focus (k_dflt (refine' (enforce_V ?zzh0 ?zzh1).use ?zzkB ?zzkF ?zzkX ?zzkN ?zzkT ?zzkf ?zzkd ?zzku ⟨(fun hc9 t'9 h'9 tk'9 F'9 N'9 => ?_), (fun hc9 e'9 g'9 h'9 tk'9 FG'9 U'9 R'9 => ?_)⟩); (k_extra "mine ra"); (case zzh0 => first | assumption | omega); (case zzh1 => first | assumption | omega); (all_goals ((try (exfalso; omega)))); rotate_left))) | ((with_reducible show wpAny _ _ (call (Value.ref 220) [Value.int _ _, Value.ref _]) _ _ _); (focus (k_dflt (refine' (enforce_k ?zzhK ?zzhk ?zzh0 ?zzh1).use ?zzkB ?zzkF ?zzkX ?zzkN ?zzkT ?zzkf ?zzkd ?zzku ⟨(fun hc9 t'9 h'9 tk'9 F'9 N'9 => ?_), (fun hc9 e'9 g'9 h'9 tk'9 FG'9 U'9 R'9 => ?_)⟩; (case zzhK => assumption); (case zzhk => assumption)); (k_extra "mine ra"); (case zzh0 => first | assumption | omega); (case zzh1 => first | assumption | omega); (all_goals ((try (exfalso; omega)))); rotate_left)))))
  k_with "m getMethod ref" => (k_here; (with_reducible show wpAny _ _ (getMethod (Value.ref _) (PySem.Str.ofString "py_type") _) _ _ _); (refine' method_of_cls ?zzF ?zzX ?zzg ?_; (case zzF => k_asm); (case zzX => k_asm); (case zzg => exact Flag.sp (by assumption)); k_whole))
  k_with "m call ref" => (k_here; (first | ((with_reducible show wpAny _ _ (call (Value.ref 227) [Value.ref 46, Value.ref _, Value.int _ _]) _ _ _); k_dflt (refine' (get_encode_U ?zzh0 ?zzh1 ?zzhb ?zzhm).use ?zzkB ?zzkF ?zzkX ?zzkN ?zzkT ?zzkf ?zzkd ?zzku ?_); (k_extra "mine ra"); (case zzhm => k_extra "mine mem"); (case zzh0 => first | assumption | omega); (case zzh1 => first | assumption | omega); (case zzhb => assumption); (first | ((focus (refine saysRet_bool (fun i9 hv9 t'9 h'9 tk'9 F'9 N'9 => ?_) (fun hv9 e'9 g'9 h'9 tk'9 FG'9 U'9 R'9 => ?_); rotate_left))) | ((focus (refine saysRet_int ?zzhk ?zzhn (fun i9 hv9 hi9 t'9 h'9 tk'9 F'9 N'9 => ?_) (fun hv9 e'9 g'9 h'9 tk'9 FG'9 U'9 R'9 => ?_); (case zzhk => first | assumption | omega | decide); (case zzhn => first | assumption | omega); (all_goals ((try simp only [loK, hiK] at hi9))); rotate_left))))) | ((with_reducible show wpAny _ _ (call (Value.ref 227) [Value.ref _, Value.ref _, Value.int _ _]) _ _ _); k_dflt (refine' (get_encode ?zzhP ?zzPK ?zzh0 ?zzh1 ?zzhb ?zzhw ?zzhm).use ?zzkB ?zzkF ?zzkX ?zzkN ?zzkT ?zzkf ?zzkd ?zzku ?_; (case zzhP => assumption); (case zzPK => assumption); (case zzhw => assumption)); (k_extra "mine ra"); (case zzhm => k_extra "mine mem"); (case zzh0 => first | assumption | omega); (case zzh1 => first | assumption | omega); (case zzhb => assumption); (first | ((focus (refine saysRet_bool (fun i9 hv9 t'9 h'9 tk'9 F'9 N'9 => ?_) (fun hv9 e'9 g'9 h'9 tk'9 FG'9 U'9 R'9 => ?_); rotate_left))) | ((focus (refine saysRet_int ?zzhk ?zzhn (fun i9 hv9 hi9 t'9 h'9 tk'9 F'9 N'9 => ?_) (fun hv9 e'9 g'9 h'9 tk'9 FG'9 U'9 R'9 => ?_); (case zzhk => first | assumption | omega | decide); (case zzhn => first | assumption | omega); (all_goals ((try simp only [loK, hiK] at hi9))); rotate_left)))))))
  k_with "m call ref" => (k_here; (first | ((with_reducible show wpAny _ _ (call (Value.ref 291) [Value.ref _, Value.ref 187, Value.int _ _]) _ _ _); k_dflt (refine' (get_S ?zzh0 ?zzh1 ?zzhb ?zzm1 ?zzm2 ?zzm3).use ?zzkB ?zzkF ?zzkX ?zzkN ?zzkT ?zzkf ?zzkd ?zzku ?_); (k_extra "mine ra"); (case zzm1 => k_extra "mine mem"); (case zzm2 => k_extra "mine mem"); (case zzm3 => k_extra "mine mem"); (case zzh0 => first | assumption | omega); (case zzh1 => first | assumption | omega); (case zzhb => assumption); (focus (refine saysRet_reads (by decide) (fun i9 hv9 hr9 hi9 t'9 h'9 tk'9 F'9 N'9 => ?_) (fun hv9 hr9 e'9 g'9 h'9 tk'9 FG'9 U'9 R'9 => ?_) (fun hv9 hr9 e'9 g'9 h'9 tk'9 FG'9 U'9 R'9 => ?_); (all_goals ((try simp only [loK, hiK] at hi9); (try (exfalso; omega))))))) | ((with_reducible show wpAny _ _ (call (Value.ref 291) [Value.ref _, Value.ref 199, Value.int _ _]) _ _ _); k_dflt (refine' (get_U ?zzh0 ?zzh1 ?zzhb ?zzm1 ?zzm2 ?zzm3).use ?zzkB ?zzkF ?zzkX ?zzkN ?zzkT ?zzkf ?zzkd ?zzku ?_); (k_extra "mine ra"); (case zzm1 => k_extra "mine mem"); (case zzm2 => k_extra "mine mem"); (case zzm3 => k_extra "mine mem"); (case zzh0 => first | assumption | omega); (case zzh1 => first | assumption | omega); (case zzhb => assumption); (focus (refine saysRet_reads (by decide) (fun i9 hv9 hr9 hi9 t'9 h'9 tk'9 F'9 N'9 => ?_) (fun hv9 hr9 e'9 g'9 h'9 tk'9 FG'9 U'9 R'9 => ?_) (fun hv9 hr9 e'9 g'9 h'9 tk'9 FG'9 U'9 R'9 => ?_); (all_goals ((try simp only [loK, hiK] at hi9); (try (exfalso; omega))))))) | ((with_reducible show wpAny _ _ (call (Value.ref 291) [Value.ref _, Value.ref 211, Value.int _ _]) _ _ _); k_dflt (refine' (get_V ?zzh0 ?zzh1 ?zzhb ?zzm1 ?zzm2 ?zzm3).use ?zzkB ?zzkF ?zzkX ?zzkN ?zzkT ?zzkf ?zzkd ?zzku ?_); (k_extra "mine ra"); (case zzm1 => k_extra "mine mem"); (case zzm2 => k_extra "mine mem"); (case zzm3 => k_extra "mine mem"); (case zzh0 => first | assumption | omega); (case zzh1 => first | assumption | omega); (case zzhb => assumption); (focus (refine saysRet_reads (by decide) (fun i9 hv9 hr9 hi9 t'9 h'9 tk'9 F'9 N'9 => ?_) (fun hv9 hr9 e'9 g'9 h'9 tk'9 FG'9 U'9 R'9 => ?_) (fun hv9 hr9 e'9 g'9 h'9 tk'9 FG'9 U'9 R'9 => ?_); (all_goals ((try simp only [loK, hiK] at hi9); (try (exfalso; omega)))))))))
  k_with "mine end" => ((rename SaysRet _ _ _ _ _ _ _ _ _ _ => hR); (first | (exact hR.int (by k_extra "mine eq") _ _ _ (by assumption) (by first | assumption | exact cb_drop (by assumption) (by kcj_in))) | (exact hR.bytes (by k_extra "mine eq") _ _ _ (by assumption) (by first | assumption | exact cb_drop (by assumption) (by kcj_in))) | (exact hR.bool (by k_extra "mine eq") 0 _ _ (by assumption) (by first | assumption | exact cb_drop (by assumption) (by kcj_in))) | (exact hR.typ (by k_extra "mine eq") _ _ _ _ (by assumption) (by assumption) (by first | assumption | exact raisedSN_weak (by assumption) (by kcj_in))) | (exact hR.fin (by k_extra "mine eq") _ _ _ _ (by assumption) (by assumption) (by first | assumption | exact raisedSN_weak (by assumption) (by kcj_in)))))
  k_with "m call ref" => (k_here; (with_reducible show wpAny _ _ (call (Value.ref 249) [Value.ref _, Value.int _ _]) _ _ _); k_dflt (refine' (offset_ok ?zzh0 ?zzh1 ?zzh2 ?zzh3 ?zzhb ?zzm1 ?zzm2 ?zzm3).use ?zzkB ?zzkF ?zzkX ?zzkN ?zzkT ?zzkf ?zzkd ?zzku ?_); (k_extra "mine ra"); (case zzm1 => k_extra "mine mem"); (case zzm2 => k_extra "mine mem"); (case zzm3 => k_extra "mine mem"); (case zzh0 => first | assumption | omega); (case zzh1 => first | assumption | omega); (case zzh2 => first | assumption | omega); (case zzh3 => first | assumption | omega); (case zzhb => assumption); refine saysRet_row (fun i9 hv9 hi9 t'9 h'9 tk'9 F'9 N'9 => ?_) (fun hv9 e'9 g'9 h'9 tk'9 FG'9 U'9 R'9 => ?_) (fun hv9 e'9 g'9 h'9 tk'9 FG'9 U'9 R'9 => ?_))
  k_with "m call ref" => (k_here; (first | ((with_reducible show wpAny _ _ (call (Value.ref 220) [Value.int _ _, Value.ref 199]) _ _ _); k_dflt (refine' (enforce_U ?zzh0 ?zzh1).use ?zzkB ?zzkF ?zzkX ?zzkN ?zzkT ?zzkf ?zzkd ?zzku ?_); (k_extra "mine ra"); (case zzh0 => first | assumption | omega); (case zzh1 => first | assumption | omega); (focus (refine ⟨(fun hc9 t'9 h'9 tk'9 F'9 N'9 => ?_), (fun hc9 e'9 g'9 h'9 tk'9 FG'9 U'9 R'9 => ?_)⟩; (all_goals ((try (exfalso; omega)))); rotate_left))) | ((with_reducible show wpAny _ _ (call (Value.ref 220) [Value.int _ _, Value.ref 211]) _ _ _); k_dflt (refine' (enforce_V ?zzh0 ?zzh1).use ?zzkB ?zzkF ?zzkX ?zzkN ?zzkT ?zzkf ?zzkd ?zzku ?_); (k_extra "mine ra"); (case zzh0 => first | assumption | omega); (case zzh1 => first | assumption | omega); (focus (refine ⟨(fun hc9 t'9 h'9 tk'9 F'9 N'9 => ?_), (fun hc9 e'9 g'9 h'9 tk'9 FG'9 U'9 R'9 => ?_)⟩; (all_goals ((try (exfalso; omega)))); rotate_left))) | ((with_reducible show wpAny _ _ (call (Value.ref 220) [Value.int _ _, Value.ref _]) _ _ _); k_dflt (refine' (enforce_k ?zzhK ?zzhk ?zzh0 ?zzh1).use ?zzkB ?zzkF ?zzkX ?zzkN ?zzkT ?zzkf ?zzkd ?zzku ?_; (case zzhK => assumption); (case zzhk => first | assumption | omega)); (k_extra "mine ra"); (case zzh0 => first | assumption | omega); (case zzh1 => first | assumption | omega); (focus (refine ⟨(fun hc9 t'9 h'9 tk'9 F'9 N'9 => ?_), (fun hc9 e'9 g'9 h'9 tk'9 FG'9 U'9 R'9 => ?_)⟩; (all_goals ((try (exfalso; omega)))); rotate_left)))))
  k_with "m call ref" => (k_here; (first | ((with_reducible show wpAny _ _ (call (Value.ref 291) [Value.ref _, Value.ref 187, Value.int _ _]) _ _ _); fail) | ((with_reducible show wpAny _ _ (call (Value.ref 291) [Value.ref _, Value.ref 199, Value.int _ _]) _ _ _); fail) | ((with_reducible show wpAny _ _ (call (Value.ref 291) [Value.ref _, Value.ref 211, Value.int _ _]) _ _ _); fail) | ((with_reducible show wpAny _ _ (call (Value.ref 291) [Value.ref _, Value.ref _, Value.int _ _]) _ _ _); k_dflt (refine' (get_okN ?zzhK ?zzhk0 ?zzhw ?zzh0 ?zzh1 ?zzhb ?zzm1 ?zzm2 ?zzm3).use ?zzkB ?zzkF ?zzkX ?zzkN ?zzkT ?zzkf ?zzkd ?zzku ?_; (case zzhK => assumption); (case zzhk0 => assumption); (case zzhw => exact wdK_le _)); (k_extra "mine ra"); (case zzm1 => k_extra "mine mem"); (case zzm2 => k_extra "mine mem"); (case zzm3 => k_extra "mine mem"); (case zzh0 => first | assumption | omega); (case zzh1 => first | assumption | omega); (case zzhb => assumption); (focus (refine saysRet_reads (by assumption) (fun i9 hv9 hr9 hi9 t'9 h'9 tk'9 F'9 N'9 => ?_) (fun hv9 hr9 e'9 g'9 h'9 tk'9 FG'9 U'9 R'9 => ?_) (fun hv9 hr9 e'9 g'9 h'9 tk'9 FG'9 U'9 R'9 => ?_); (all_goals ((try (exfalso; omega))))))) | ((with_reducible show wpAny _ _ (call (Value.ref 291) [Value.ref _, Value.ref _, Value.int _ _]) _ _ _); k_dflt (refine' (get_ok0 ?zzhK ?zzh0 ?zzh1 ?zzhb ?zzm1 ?zzm2 ?zzm3).use ?zzkB ?zzkF ?zzkX ?zzkN ?zzkT ?zzkf ?zzkd ?zzku ?_; (case zzhK => assumption)); (k_extra "mine ra"); (case zzm1 => k_extra "mine mem"); (case zzm2 => k_extra "mine mem"); (case zzm3 => k_extra "mine mem"); (case zzh0 => first | assumption | omega); (case zzh1 => first | assumption | omega); (case zzhb => assumption); (focus (refine saysRet_reads0 (fun i9 hv9 hr9 t'9 h'9 tk'9 F'9 N'9 => ?_) (fun hv9 hr9 e'9 g'9 h'9 tk'9 FG'9 U'9 R'9 => ?_) (fun hv9 hr9 e'9 g'9 h'9 tk'9 FG'9 U'9 R'9 => ?_); (all_goals ((try (exfalso; omega)))))))))
  k_with "m call ref" => (k_here; (first | ((with_reducible show wpAny _ _ (call (Value.ref 220) [Value.bool _, Value.ref 61]) _ _ _); k_dflt (refine' (enforce_bb).use ?zzkB ?zzkF ?zzkX ?zzkN ?zzkT ?zzkf ?zzkd ?zzku ⟨?_, fun hc => (hc trivial).elim⟩); (k_extra "mine ra"); (intro hc t' h' tk' F' N')) | ((with_reducible show wpAny _ _ (call (Value.ref 220) [Value.int _ _, Value.ref 61]) _ _ _); k_dflt (refine' (enforce_bi ?zzhn).use ?zzkB ?zzkF ?zzkX ?zzkN ?zzkT ?zzkf ?zzkd ?zzku ⟨fun hc => hc.elim, ?_⟩; (case zzhn => assumption)); (k_extra "mine ra"); (intro hc e' g' h' tk' FG' U' R'))))
  k_with "mine mem" => (with_reducible first | assumption | exact List.mem_cons_self | (refine List.mem_cons_of_mem _ ?_; k_extra "mine mem"))
  k_with "k_mem" => (k_extra "mine mem")
  k_with "mine eq" => (assumption)
  k_with "m call ref" => (k_here; (with_reducible show wpAny _ _ (call (Value.ref 320) _) _ _ _); k_dflt (refine' (kinds_ok).use ?zzkB ?zzkF ?zzkX ?zzkN ?zzkT ?zzkf ?zzkd ?zzku ?_); (k_extra "mine ra"); intro l' D' h' tk' F' N' K')
  k_with "m subscriptTail" => (k_here; (with_reducible show wpAny _ _ (subscriptTail _ _ (Value.ref _) (Value.int _ _)) _ _ _); (with_unfolding_all (refine' kinds_item ?zzN ?zzm ?zzK ?zzh0 ?zzh1 ?zzhW ?_ ?zzhs); (case zzN => k_asm); (case zzm => k_extra "mine mem"); (case zzK => k_asm); (case zzh0 => first | assumption | omega); (case zzh1 => first | assumption | omega); (case zzhW => first | assumption | exact rfl); (case zzhs => with_unfolding_all rfl); k_whole); intro a' b' c' N')
  k_with "m UnrEnd" => (k_dflt (refine' unrEnd_tail ?zzF ?zzN ?zzoff ?_; (case zzF => k_asm); (case zzN => k_asm); (case zzoff => exact fun p hp => Nat.ne_of_lt (ktn_ltOf (by assumption) p hp)); k_whole))
  k_with "m call ref" => (k_here; (with_reducible show wpAny _ _ (call (Value.ref 339) _) _ _ _); k_dflt (refine' (number_ok ?zzh0 ?zzh1 ?zzhk0 ?zzhk1 ?zzhb ?zzhi ?zzm1).use ?zzkB ?zzkF ?zzkX ?zzkN ?zzkT ?zzkf ?zzkd ?zzku ?_); (k_extra "mine ra"); (case zzm1 => k_extra "mine mem"); (case zzhi => assumption); (case zzhb => assumption); (case zzh0 => first | assumption | omega); (case zzh1 => first | assumption | omega); (case zzhk0 => first | assumption | omega); (case zzhk1 => first | assumption | omega); (first | (refine rets_rd ?zzz (fun i9 hv9 hb9 t'9 h'9 tk'9 F'9 N'9 => ?_) (fun i9 hv9 t'9 h'9 tk'9 F'9 N'9 => ?_) (fun hv9 t'9 h'9 tk'9 F'9 N'9 => ?_); (case zzz => first | assumption | omega)) | (refine rets_rd ?_ ?_ ?_ ?_; (first | assumption | omega); (intro i hv hb t' h' tk' F' N'); (intro i hv t' h' tk' F' N'); (intro hv t' h' tk' F' N'))))
  k_with "mine end" => ((rename Rets _ _ _ _ _ _ _ => hR); (first | (exact rets_int hR (by k_extra "mine eq") _ _ _ (by assumption) (by first | assumption | exact cb_drop (by assumption) (by kcj_in))) | (exact rets_typ hR (by k_extra "mine eq") _ _ _ (by assumption) (by first | assumption | exact cb_drop (by assumption) (by kcj_in))) | (exact rets_fin hR (by k_extra "mine eq") _ _ _ (by assumption) (by first | assumption | exact cb_drop (by assumption) (by kcj_in))) | (exact rets_bytes hR (by k_extra "mine eq") _ _ _ (by assumption) (by first | assumption | exact cb_drop (by assumption) (by kcj_in))) | (exact rets_bool hR (by k_extra "mine eq") 0 _ _ (by assumption) (by first | assumption | exact cb_drop (by assumption) (by kcj_in)))))
  trivial
section
section
variable {Q : Value → Shared → Prop} {h₀ : Heap} {L : Addr} {m : Str → Option Value} {s : Shared} {news : List (Addr × Obj)} {k : Nat} {b : Array UInt8} {off n : Int}
/-- the answers of rd, told apart -/
theorem rets_rd (h0 : 0 ≤ n) (hi : ∀ i, rd k b n = .int i → loK k ≤ i ∧ i ≤ hiK k → Rets (fun t => .int i t) Q h₀ L m news s) (hb : ∀ i, rd k b n = .bool i → Rets (fun _ => .bool i) Q h₀ L m news s) (hf : rd k b n = .fin → Rets (fun t => .str (Str.ofString "end") t) Q h₀ L m news s) : Rets (rd k b n).val Q h₀ L m news s := by
  by_cases hk : k = 0
  · have : (∃ i, rd k b n = .bool i) ∨ rd k b n = .fin := by
      unfold rd decode
      rw [if_pos hk]
      split
      · exact .inl ⟨_, rfl⟩
      · exact .inr rfl
    rcases this with ⟨i, e⟩ | e
    · have := hb i e; rw [e]; exact this
    · have := hf e; rw [e]; exact this
  · rcases rd_shape (k := k) (b := b) (n := n) hk with ⟨i, e⟩ | e
    · have := hi i e (rd_bounds h0 e); rw [e]; exact this
    · have := hf e; rw [e]; exact this
theorem rets_reads (hk : ¬ k = 0) (hi : ∀ i, reads k b off = .int i → (0 ≤ off ∧ off ≤ 4294967295) → loK k ≤ i ∧ i ≤ hiK k → Rets (fun t => .int i t) Q h₀ L m news s) (ht : reads k b off = .typ → ¬ (0 ≤ off ∧ off ≤ 4294967295) → Rets (fun t => .str (Str.ofString "type") t) Q h₀ L m news s) (hf : reads k b off = .fin → (0 ≤ off ∧ off ≤ 4294967295) → Rets (fun t => .str (Str.ofString "end") t) Q h₀ L m news s) : Rets (reads k b off).val Q h₀ L m news s := by
  by_cases h : 0 ≤ off ∧ off ≤ 4294967295
  · have e : reads k b off = rd k b off := if_pos h
    rcases rd_shape (k := k) (b := b) (n := off) hk with ⟨i, ei⟩ | ei
    · have := hi i (e.trans ei) h (rd_bounds h.1 ei); rw [e, ei]; exact this
    · have := hf (e.trans ei) h; rw [e, ei]; exact this
  · have e : reads k b off = .typ := if_neg h
    have := ht e h; rw [e]; exact this
theorem reads_in {a : Ans} (h : 0 ≤ off ∧ off ≤ 4294967295) (e : rd k b off = a) : reads k b off = a := by unfold reads; rw [if_pos h, e]
theorem reads_out (h : ¬ (0 ≤ off ∧ off ≤ 4294967295)) : reads k b off = .typ := if_neg h
end
theorem kw28 : True := by
  w_top off
  k_with "mine num" => (refine rets_rd ?_ ?_ ?_ ?_; (first | assumption | omega); (intro i hv hb t' h' tk' F' N'); (intro i hv t' h' tk' F' N'); (intro hv t' h' tk' F' N'))
  k_with "mine num" => (refine rets_rd ?zzz (fun i9 hv9 hb9 t'9 h'9 tk'9 F'9 N'9 => ?_) (fun i9 hv9 t'9 h'9 tk'9 F'9 N'9 => ?_) (fun hv9 t'9 h'9 tk'9 F'9 N'9 => ?_); (case zzz => first | assumption | omega))
  k_with "mine eq" => (first | (exact reads_in (by omega) (by assumption)) | (exact reads_out (by omega)))
  trivial
section
variable {w : World} {mean : ExcName → Option Value} {mg mb : Str → Option Value} {p : Program} {loose : List Str} {news : List (Addr × Obj)} {lo : Addr} {vs : List Value} {c : Nat} {b : Array UInt8} {place k : Int} {tp tk : Tok}
theorem held_ok (h0 : -(2 ^ 40) ≤ place) (h1 : place < 2 ^ 40) (hk0 : 0 ≤ k) (hk1 : k < 9) (hb : b.size ≤ 64) (hi : IntsAre vs (ocs b)) (m1 : (lo, listOf vs.toArray c) ∈ news) :
    Calls w mean mg mb p loose 5 70 (.ref 346) [.ref lo, .int place tp, .int k tk] news (fun Q E base h₀ L m fr s => Rets (reads k.toNat b place).val Q h₀ L m news s) := by
  unfold Calls
  k_fill
  intro dp un gd cn cs a ccd cl outer A₀ base h₀ L m s Q E B F X N T hf hd hu hret
  refine wpAny_call ?_
  k_dflt cell_enter
  k_steps
  all_goals (first | k_extra "mine end")
end
end
theorem kw29 : True := by
  w_top off
  k_with_none
  k_with "k_ne" => ((try dsimp only); with_reducible first | exact Nat.ne_of_lt (by k_extra "mine lt") | exact Nat.ne_of_gt (by k_extra "mine lt") | fail)
  k_with "mine lt" => (first | assumption | (refine Nat.lt_trans (by assumption) ?_; k_extra "mine lt"))
  k_with "mine ra" => ((case zzkB => k_asm); (case zzkF => k_asm); (case zzkX => k_asm); (case zzkN => k_asm); (case zzkT => k_asm); (case zzkf => first | exact rfl | assumption); (case zzkd => ktr_room); (case zzku => ktr_units))
  k_with "mine name" => (first | (name_kind "local"; refine' nameX_L (by k_asm) (by exact rfl) ?_ (by kernel_rfl) (by kernel_rfl) (by kernel_rfl); k_whole) | (name_kind "globalImplicit"; refine' nameX_K (by k_asm) (by k_asm) (by k_asm) (by k_is) ?_ (by kernel_rfl) (by kernel_rfl) (by kernel_rfl); k_whole) | (name_kind "globalImplicit"; refine' nameX_B (by k_asm) (by k_asm) (by k_asm) (by k_is) (by boot_fast) (by decide) ?_ (by kernel_rfl) (by kernel_rfl) (by kernel_rfl); k_whole))
  k_with "m eval Name" => (k_here; k_dflt k_extra "mine name")
  k_with "k_room" => (ktr_room)
  k_with "k_units" => (ktr_units)
  k_with "m getMethod ref" => (k_here; (with_reducible show wpAny _ _ (getMethod (Value.ref _) (PySem.Str.ofString "unpack_from") _) _ _ _); (refine' method_unpack ?zzhP ?_; (case zzhP => exact (Frag.In.keeps (by k_asm) (Fr.keep (by k_asm))) _ _ (by assumption)); k_whole))
  k_with "m call builtin:_struct.Struct.unpack_from" => (k_here; ((focus (refine' unpack_call ?zzhh ?zzF ?zzN ?zzhP ?zzhd ?zzPK ?zzh0 ?zzh1 ?zzhb ?zzhw (fun hin9 T'9 t'9 h'9 tk'9 F'9 N'9 l19 => ?_) (fun hin9 h'9 tk'9 e'9 x'9 => ?_); (case zzhh => rfl); (case zzF => k_asm); (case zzN => k_asm); (case zzhP => exact (Frag.In.keeps (by k_asm) (Fr.keep (by k_asm))) _ _ (by assumption)); (case zzhd => exact News.get (by k_asm) (by k_mem)); (case zzPK => assumption); (case zzh0 => assumption); (case zzh1 => omega); (case zzhb => assumption); (case zzhw => assumption); (all_goals ((try k_lt l19))); rotate_left))))
  k_with "m leaving ref" => (k_here; (first | (refine' leave_onX rfl ?zzk1 ?zzk2 ?zzk3 ?zzk4 ?_; (case zzk3 => assumption); (case zzk1 => assumption); (case zzk4 => assumption); (case zzk2 => assumption); k_whole; intro h' R' U'; (try dsimp only at R' U' ⊢)) | (refine' leave_newN ?zzk1 ?zzk0 ?zzk2 ?zzk3 ?_; (case zzk0 => assumption); (case zzk1 => assumption); (case zzk2 => assumption); (case zzk3 => k_asm); k_whole; intro h' R' U'; (try dsimp only at R' U' ⊢)) | (refine' leave_raiseN ?zzk1 ?zzk0 ?zzk2 ?zzk3 ?_; (case zzk0 => first | assumption | (exact Heap.MadeExc.of (by assumption))); (case zzk1 => assumption); (case zzk2 => assumption); (case zzk3 => k_asm); k_whole; intro h' R' U'; (try dsimp only at R' U' ⊢))))
  k_with "m getAttr ref" => (k_here; (first | (refine' cls_val ?zzk1 ?zzk2 ?zzk3 ?zzk4 ?zzk5 ?zzk6 ?_; (case zzk1 => k_asm); (case zzk2 => k_asm); (case zzk3 => exact Flag.ty (by assumption)); (case zzk4 => exact Flag.rd (by assumption)); (case zzk5 => first | (exact Flag.mn (by assumption)) | (exact Flag.mx (by assumption)) | (exact Flag.pkt (by assumption)) | assumption); (case zzk6 => rfl); k_whole) | (refine' cls_pyt ?zzX ?zzr ?zza ?zzb ?zzT ?_; (case zza => exact Flag.pyt (by assumption)); (case zzX => exact (Frag.In.keeps (by k_asm) (Fr.keep (by k_asm)))); (case zzr => exact Flag.rd (by assumption)); (case zzb => exact Flag.pym (by assumption)); (case zzT => first | exact FF.mt_int | exact FF.mt_bool | assumption); k_whole)))
  k_with "m compareOp LtE bool int" => (refine le_bool_int ?_)
  k_with "m compareOp LtE int bool" => (refine le_int_bool ?_)
  k_with "m call ref" => (k_here; (first | ((with_reducible show wpAny _ _ (call (Value.ref 220) [Value.int _ _, Value.ref 199]) _ _ _); (focus (k_dflt (refine' (enforce_U ?zzh0 ?zzh1).use ?zzkB ?zzkF ?zzkX ?zzkN ?zzkT ?zzkf ?zzkd ?zzku ⟨(fun hc9 t'9 h'9 tk'9 F'9 N'9 => ?_), (fun hc9 e'9 g'9 h'9 tk'9 FG'9 U'9 R'9 => ?_)⟩); (k_extra "mine ra"); (case zzh0 => first | assumption | omega); (case zzh1 => first | assumption | omega); (all_goals ((try (exfalso; omega)))); rotate_left))) | ((with_reducible show wpAny _ _ (call (Value.ref 220) [Value.int _ _, Value.ref 211]) _ _ _); (focus (k_dflt (refine' (enforce_V ?zzh0 ?zzh1).use ?zzkB ?zzkF ?zzkX ?zzkN ?zzkT ?zzkf ?zzkd ?zzku ⟨(fun hc9 t'9 h'9 tk'9 F'9 N'9 => ?_), (fun hc9 e'9 g'9 h'9 tk'9 FG'9 U'9 R'9 => ?_)⟩); (k_extra "mine ra"); (case zzh0 => first | assumption | omega); (case zzh1 => first | assumption | omega); (all_goals ((try (exfalso; omega)))); rotate_left))) | ((with_reducible show wpAny _ _ (call (Value.ref 220) [Value.int _ _, Value.ref _]) _ _ _); (focus (k_dflt (refine' (enforce_k ?zzhK ?zzhk ?zzh0 ?zzh1).use ?zzkB ?zzkF ?zzkX ?zzkN ?zzkT ?zzkf ?zzkd ?zzku ⟨(fun hc9 t'9 h'9 tk'9 F'9 N'9 => ?_), (fun hc9 e'9 g'9 h'9 tk'9 FG'9 U'9 R'9 => ?_)⟩; (case zzhK => assumption); (case zzhk => assumption)); (k_extra "mine ra"); (case zzh0 => first | assumption | omega); (case zzh1 => first | assumption | omega); (all_goals ((try (exfalso; omega)))); rotate_left)))))
  k_with "m getMethod ref" => (k_here; (with_reducible show wpAny _ _ (getMethod (Value.ref _) (PySem.Str.ofString "py_type") _) _ _ _); (refine' method_of_cls ?zzF ?zzX ?zzg ?_; (case zzF => k_asm); (case zzX => k_asm); (case zzg => exact Flag.sp (by assumption)); k_whole))
  k_with "m call ref" => (k_here; (first | ((with_reducible show wpAny _ _ (call (Value.ref 227) [Value.ref 46, Value.ref _, Value.int _ _]) _ _ _); k_dflt (refine' (get_encode_U ?zzh0 ?zzh1 ?zzhb ?zzhm).use ?zzkB ?zzkF ?zzkX ?zzkN ?zzkT ?zzkf ?zzkd ?zzku ?_); (k_extra "mine ra"); (case zzhm => k_extra "mine mem"); (case zzh0 => first | assumption | omega); (case zzh1 => first | assumption | omega); (case zzhb => assumption); (first | ((focus (refine saysRet_bool (fun i9 hv9 t'9 h'9 tk'9 F'9 N'9 => ?_) (fun hv9 e'9 g'9 h'9 tk'9 FG'9 U'9 R'9 => ?_); rotate_left))) | ((focus (refine saysRet_int ?zzhk ?zzhn (fun i9 hv9 hi9 t'9 h'9 tk'9 F'9 N'9 => ?_) (fun hv9 e'9 g'9 h'9 tk'9 FG'9 U'9 R'9 => ?_); (case zzhk => first | assumption | omega | decide); (case zzhn => first | assumption | omega); (all_goals ((try simp only [loK, hiK] at hi9))); rotate_left))))) | ((with_reducible show wpAny _ _ (call (Value.ref 227) [Value.ref _, Value.ref _, Value.int _ _]) _ _ _); k_dflt (refine' (get_encode ?zzhP ?zzPK ?zzh0 ?zzh1 ?zzhb ?zzhw ?zzhm).use ?zzkB ?zzkF ?zzkX ?zzkN ?zzkT ?zzkf ?zzkd ?zzku ?_; (case zzhP => assumption); (case zzPK => assumption); (case zzhw => assumption)); (k_extra "mine ra"); (case zzhm => k_extra "mine mem"); (case zzh0 => first | assumption | omega); (case zzh1 => first | assumption | omega); (case zzhb => assumption); (first | ((focus (refine saysRet_bool (fun i9 hv9 t'9 h'9 tk'9 F'9 N'9 => ?_) (fun hv9 e'9 g'9 h'9 tk'9 FG'9 U'9 R'9 => ?_); rotate_left))) | ((focus (refine saysRet_int ?zzhk ?zzhn (fun i9 hv9 hi9 t'9 h'9 tk'9 F'9 N'9 => ?_) (fun hv9 e'9 g'9 h'9 tk'9 FG'9 U'9 R'9 => ?_); (case zzhk => first | assumption | omega | decide); (case zzhn => first | assumption | omega); (all_goals ((try simp only [loK, hiK] at hi9))); rotate_left)))))))
  k_with "m call ref" => (k_here; (first | ((with_reducible show wpAny _ _ (call (Value.ref 291) [Value.ref _, Value.ref 187, Value.int _ _]) _ _ _); k_dflt (refine' (get_S ?zzh0 ?zzh1 ?zzhb ?zzm1 ?zzm2 ?zzm3).use ?zzkB ?zzkF ?zzkX ?zzkN ?zzkT ?zzkf ?zzkd ?zzku ?_); (k_extra "mine ra"); (case zzm1 => k_extra "mine mem"); (case zzm2 => k_extra "mine mem"); (case zzm3 => k_extra "mine mem"); (case zzh0 => first | assumption | omega); (case zzh1 => first | assumption | omega); (case zzhb => assumption); (focus (refine saysRet_reads (by decide) (fun i9 hv9 hr9 hi9 t'9 h'9 tk'9 F'9 N'9 => ?_) (fun hv9 hr9 e'9 g'9 h'9 tk'9 FG'9 U'9 R'9 => ?_) (fun hv9 hr9 e'9 g'9 h'9 tk'9 FG'9 U'9 R'9 => ?_); (all_goals ((try simp only [loK, hiK] at hi9); (try (exfalso; omega))))))) | ((with_reducible show wpAny _ _ (call (Value.ref 291) [Value.ref _, Value.ref 199, Value.int _ _]) _ _ _); k_dflt (refine' (get_U ?zzh0 ?zzh1 ?zzhb ?zzm1 ?zzm2 ?zzm3).use ?zzkB ?zzkF ?zzkX ?zzkN ?zzkT ?zzkf ?zzkd ?zzku ?_); (k_extra "mine ra"); (case zzm1 => k_extra "mine mem"); (case zzm2 => k_extra "mine mem"); (case zzm3 => k_extra "mine mem"); (case zzh0 => first | assumption | omega); (case zzh1 => first | assumption | omega); (case zzhb => assumption); (focus (refine saysRet_reads (by decide) (fun i9 hv9 hr9 hi9 t'9 h'9 tk'9 F'9 N'9 => ?_) (fun hv9 hr9 e'9 g'9 h'9 tk'9 FG'9 U'9 R'9 => ?_) (fun hv9 hr9 e'9 g'9 h'9 tk'9 FG'9 U'9 R'9 => ?_); (all_goals ((try simp only [loK, hiK] at hi9); (try (exfalso; omega))))))) | ((with_reducible show wpAny _ _ (call (Value.ref 291) [Value.ref _, Value.ref 211, Value.int _ _]) _ _ _); k_dflt (refine' (get_V ?zzh0 ?zzh1 ?zzhb ?zzm1 ?zzm2 ?zzm3).use ?zzkB ?zzkF ?zzkX ?zzkN ?zzkT ?zzkf ?zzkd ?zzku ?_); (k_extra "mine ra"); (case zzm1 => k_extra "mine mem"); (case zzm2 => k_extra "mine mem"); (case zzm3 => k_extra "mine mem"); (case zzh0 => first | assumption | omega); (case zzh1 => first | assumption | omega); (case zzhb => assumption); (focus (refine saysRet_reads (by decide) (fun i9 hv9 hr9 hi9 t'9 h'9 tk'9 F'9 N'9 => ?_) (fun hv9 hr9 e'9 g'9 h'9 tk'9 FG'9 U'9 R'9 => ?_) (fun hv9 hr9 e'9 g'9 h'9 tk'9 FG'9 U'9 R'9 => ?_); (all_goals ((try simp only [loK, hiK] at hi9); (try (exfalso; omega)))))))))
  k_with "mine end" => ((rename SaysRet _ _ _ _ _ _ _ _ _ _ => hR); (first | (exact hR.int (by k_extra "mine eq") _ _ _ (by assumption) (by first | assumption | exact cb_drop (by assumption) (by kcj_in))) | (exact hR.bytes (by k_extra "mine eq") _ _ _ (by assumption) (by first | assumption | exact cb_drop (by assumption) (by kcj_in))) | (exact hR.bool (by k_extra "mine eq") 0 _ _ (by assumption) (by first | assumption | exact cb_drop (by assumption) (by kcj_in))) | (exact hR.typ (by k_extra "mine eq") _ _ _ _ (by assumption) (by assumption) (by first | assumption | exact raisedSN_weak (by assumption) (by kcj_in))) | (exact hR.fin (by k_extra "mine eq") _ _ _ _ (by assumption) (by assumption) (by first | assumption | exact raisedSN_weak (by assumption) (by kcj_in)))))
  k_with "m call ref" => (k_here; (with_reducible show wpAny _ _ (call (Value.ref 249) [Value.ref _, Value.int _ _]) _ _ _); k_dflt (refine' (offset_ok ?zzh0 ?zzh1 ?zzh2 ?zzh3 ?zzhb ?zzm1 ?zzm2 ?zzm3).use ?zzkB ?zzkF ?zzkX ?zzkN ?zzkT ?zzkf ?zzkd ?zzku ?_); (k_extra "mine ra"); (case zzm1 => k_extra "mine mem"); (case zzm2 => k_extra "mine mem"); (case zzm3 => k_extra "mine mem"); (case zzh0 => first | assumption | omega); (case zzh1 => first | assumption | omega); (case zzh2 => first | assumption | omega); (case zzh3 => first | assumption | omega); (case zzhb => assumption); refine saysRet_row (fun i9 hv9 hi9 t'9 h'9 tk'9 F'9 N'9 => ?_) (fun hv9 e'9 g'9 h'9 tk'9 FG'9 U'9 R'9 => ?_) (fun hv9 e'9 g'9 h'9 tk'9 FG'9 U'9 R'9 => ?_))
  k_with "m call ref" => (k_here; (first | ((with_reducible show wpAny _ _ (call (Value.ref 220) [Value.int _ _, Value.ref 199]) _ _ _); k_dflt (refine' (enforce_U ?zzh0 ?zzh1).use ?zzkB ?zzkF ?zzkX ?zzkN ?zzkT ?zzkf ?zzkd ?zzku ?_); (k_extra "mine ra"); (case zzh0 => first | assumption | omega); (case zzh1 => first | assumption | omega); (focus (refine ⟨(fun hc9 t'9 h'9 tk'9 F'9 N'9 => ?_), (fun hc9 e'9 g'9 h'9 tk'9 FG'9 U'9 R'9 => ?_)⟩; (all_goals ((try (exfalso; omega)))); rotate_left))) | ((with_reducible show wpAny _ _ (call (Value.ref 220) [Value.int _ _, Value.ref 211]) _ _ _); k_dflt (refine' (enforce_V ?zzh0 ?zzh1).use ?zzkB ?zzkF ?zzkX ?zzkN ?zzkT ?zzkf ?zzkd ?zzku ?_); (k_extra "mine ra"); (case zzh0 => first | assumption | omega); (case zzh1 => first | assumption | omega); (focus (refine ⟨(fun hc9 t'9 h'9 tk'9 F'9 N'9 => ?_), (fun hc9 e'9 g'9 h'9 tk'9 FG'9 U'9 R'9 => ?_)⟩; (all_goals ((try (exfalso; omega)))); rotate_left))) | ((with_reducible show wpAny _ _ (call (Value.ref 220) [Value.int _ _, Value.ref _]) _ _ _); k_dflt (refine' (enforce_k ?zzhK ?zzhk ?zzh0 ?zzh1).use ?zzkB ?zzkF ?zzkX ?zzkN ?zzkT ?zzkf ?zzkd ?zzku ?_; (case zzhK => assumption); (case zzhk => first | assumption | omega)); (k_extra "mine ra"); (case zzh0 => first | assumption | omega); (case zzh1 => first | assumption | omega); (focus (refine ⟨(fun hc9 t'9 h'9 tk'9 F'9 N'9 => ?_), (fun hc9 e'9 g'9 h'9 tk'9 FG'9 U'9 R'9 => ?_)⟩; (all_goals ((try (exfalso; omega)))); rotate_left)))))
  k_with "m call ref" => (k_here; (first | ((with_reducible show wpAny _ _ (call (Value.ref 291) [Value.ref _, Value.ref 187, Value.int _ _]) _ _ _); fail) | ((with_reducible show wpAny _ _ (call (Value.ref 291) [Value.ref _, Value.ref 199, Value.int _ _]) _ _ _); fail) | ((with_reducible show wpAny _ _ (call (Value.ref 291) [Value.ref _, Value.ref 211, Value.int _ _]) _ _ _); fail) | ((with_reducible show wpAny _ _ (call (Value.ref 291) [Value.ref _, Value.ref _, Value.int _ _]) _ _ _); k_dflt (refine' (get_okN ?zzhK ?zzhk0 ?zzhw ?zzh0 ?zzh1 ?zzhb ?zzm1 ?zzm2 ?zzm3).use ?zzkB ?zzkF ?zzkX ?zzkN ?zzkT ?zzkf ?zzkd ?zzku ?_; (case zzhK => assumption); (case zzhk0 => assumption); (case zzhw => exact wdK_le _)); (k_extra "mine ra"); (case zzm1 => k_extra "mine mem"); (case zzm2 => k_extra "mine mem"); (case zzm3 => k_extra "mine mem"); (case zzh0 => first | assumption | omega); (case zzh1 => first | assumption | omega); (case zzhb => assumption); (focus (refine saysRet_reads (by assumption) (fun i9 hv9 hr9 hi9 t'9 h'9 tk'9 F'9 N'9 => ?_) (fun hv9 hr9 e'9 g'9 h'9 tk'9 FG'9 U'9 R'9 => ?_) (fun hv9 hr9 e'9 g'9 h'9 tk'9 FG'9 U'9 R'9 => ?_); (all_goals ((try (exfalso; omega))))))) | ((with_reducible show wpAny _ _ (call (Value.ref 291) [Value.ref _, Value.ref _, Value.int _ _]) _ _ _); k_dflt (refine' (get_ok0 ?zzhK ?zzh0 ?zzh1 ?zzhb ?zzm1 ?zzm2 ?zzm3).use ?zzkB ?zzkF ?zzkX ?zzkN ?zzkT ?zzkf ?zzkd ?zzku ?_; (case zzhK => assumption)); (k_extra "mine ra"); (case zzm1 => k_extra "mine mem"); (case zzm2 => k_extra "mine mem"); (case zzm3 => k_extra "mine mem"); (case zzh0 => first | assumption | omega); (case zzh1 => first | assumption | omega); (case zzhb => assumption); (focus (refine saysRet_reads0 (fun i9 hv9 hr9 t'9 h'9 tk'9 F'9 N'9 => ?_) (fun hv9 hr9 e'9 g'9 h'9 tk'9 FG'9 U'9 R'9 => ?_) (fun hv9 hr9 e'9 g'9 h'9 tk'9 FG'9 U'9 R'9 => ?_); (all_goals ((try (exfalso; omega)))))))))
  k_with "m call ref" => (k_here; (first | ((with_reducible show wpAny _ _ (call (Value.ref 220) [Value.bool _, Value.ref 61]) _ _ _); k_dflt (refine' (enforce_bb).use ?zzkB ?zzkF ?zzkX ?zzkN ?zzkT ?zzkf ?zzkd ?zzku ⟨?_, fun hc => (hc trivial).elim⟩); (k_extra "mine ra"); (intro hc t' h' tk' F' N')) | ((with_reducible show wpAny _ _ (call (Value.ref 220) [Value.int _ _, Value.ref 61]) _ _ _); k_dflt (refine' (enforce_bi ?zzhn).use ?zzkB ?zzkF ?zzkX ?zzkN ?zzkT ?zzkf ?zzkd ?zzku ⟨fun hc => hc.elim, ?_⟩; (case zzhn => assumption)); (k_extra "mine ra"); (intro hc e' g' h' tk' FG' U' R'))))
  k_with "mine mem" => (with_reducible first | assumption | exact List.mem_cons_self | (refine List.mem_cons_of_mem _ ?_; k_extra "mine mem"))
  k_with "k_mem" => (k_extra "mine mem")
  k_with "mine eq" => (assumption)
  k_with "m call ref" => (k_here; (with_reducible show wpAny _ _ (call (Value.ref 320) _) _ _ _); k_dflt (refine' (kinds_ok).use ?zzkB ?zzkF ?zzkX ?zzkN ?zzkT ?zzkf ?zzkd ?zzku ?_); (k_extra "mine ra"); intro l' D' h' tk' F' N' K')
  k_with "m subscriptTail" => (k_here; (with_reducible show wpAny _ _ (subscriptTail _ _ (Value.ref _) (Value.int _ _)) _ _ _); (with_unfolding_all (refine' kinds_item ?zzN ?zzm ?zzK ?zzh0 ?zzh1 ?zzhW ?_ ?zzhs); (case zzN => k_asm); (case zzm => k_extra "mine mem"); (case zzK => k_asm); (case zzh0 => first | assumption | omega); (case zzh1 => first | assumption | omega); (case zzhW => first | assumption | exact rfl); (case zzhs => with_unfolding_all rfl); k_whole); intro a' b' c' N')
  k_with "m UnrEnd" => (k_dflt (refine' unrEnd_tail ?zzF ?zzN ?zzoff ?_; (case zzF => k_asm); (case zzN => k_asm); (case zzoff => exact fun p hp => Nat.ne_of_lt (ktn_ltOf (by assumption) p hp)); k_whole))
  k_with "m call ref" => (k_here; (with_reducible show wpAny _ _ (call (Value.ref 339) _) _ _ _); k_dflt (refine' (number_ok ?zzh0 ?zzh1 ?zzhk0 ?zzhk1 ?zzhb ?zzhi ?zzm1).use ?zzkB ?zzkF ?zzkX ?zzkN ?zzkT ?zzkf ?zzkd ?zzku ?_); (k_extra "mine ra"); (case zzm1 => k_extra "mine mem"); (case zzhi => assumption); (case zzhb => assumption); (case zzh0 => first | assumption | omega); (case zzh1 => first | assumption | omega); (case zzhk0 => first | assumption | omega); (case zzhk1 => first | assumption | omega); refine rets_rd ?zzz (fun i9 hv9 hb9 t'9 h'9 tk'9 F'9 N'9 => ?_) (fun i9 hv9 t'9 h'9 tk'9 F'9 N'9 => ?_) (fun hv9 t'9 h'9 tk'9 F'9 N'9 => ?_); (case zzz => first | assumption | omega))
  k_with "mine end" => ((rename Rets _ _ _ _ _ _ _ => hR); (first | (exact rets_int hR (by k_extra "mine eq") _ _ _ (by assumption) (by first | assumption | exact cb_drop (by assumption) (by kcj_in))) | (exact rets_typ hR (by k_extra "mine eq") _ _ _ (by assumption) (by first | assumption | exact cb_drop (by assumption) (by kcj_in))) | (exact rets_fin hR (by k_extra "mine eq") _ _ _ (by assumption) (by first | assumption | exact cb_drop (by assumption) (by kcj_in))) | (exact rets_bytes hR (by k_extra "mine eq") _ _ _ (by assumption) (by first | assumption | exact cb_drop (by assumption) (by kcj_in))) | (exact rets_bool hR (by k_extra "mine eq") 0 _ _ (by assumption) (by first | assumption | exact cb_drop (by assumption) (by kcj_in)))))
  k_with "m call ref" => (k_here; (with_reducible show wpAny _ _ (call (Value.ref 346) _) _ _ _); k_dflt (refine' (held_ok ?zzh0 ?zzh1 ?zzhk0 ?zzhk1 ?zzhb ?zzhi ?zzm1).use ?zzkB ?zzkF ?zzkX ?zzkN ?zzkT ?zzkf ?zzkd ?zzku ?_); (k_extra "mine ra"); (case zzm1 => k_extra "mine mem"); (case zzhi => assumption); (case zzhb => assumption); (case zzh0 => first | assumption | omega); (case zzh1 => first | assumption | omega); (case zzhk0 => first | assumption | omega); (case zzhk1 => first | assumption | omega); (focus (refine rets_reads ?zzz (fun i9 hv9 hr9 hb9 t'9 h'9 tk'9 F'9 N'9 => ?_) (fun hv9 hr9 t'9 h'9 tk'9 F'9 N'9 => ?_) (fun hv9 hr9 t'9 h'9 tk'9 F'9 N'9 => ?_); (case zzz => first | decide | assumption | omega); (all_goals ((try simp only [Int.reduceToNat, loK, hiK] at hv9 hb9); (try (exfalso; omega)); (try simp only [Int.reduceToNat] at hv9))))))
  k_with "mine held" => ((focus (refine rets_reads ?zzz (fun i9 hv9 hr9 hb9 t'9 h'9 tk'9 F'9 N'9 => ?_) (fun hv9 hr9 t'9 h'9 tk'9 F'9 N'9 => ?_) (fun hv9 hr9 t'9 h'9 tk'9 F'9 N'9 => ?_); (case zzz => first | decide | assumption | omega); (all_goals ((try simp only [Int.reduceToNat, loK, hiK] at hv9 hb9); (try (exfalso; omega)); (try simp only [Int.reduceToNat] at hv9))))))
  trivial
section
theorem kw30 : True := by
  w_top off
  k_with "mine num" => (refine rets_rd ?zzz (fun i9 hv9 hb9 t'9 h'9 tk'9 F'9 N'9 => ?_) (fun i9 hv9 t'9 h'9 tk'9 F'9 N'9 => ?_) (fun hv9 t'9 h'9 tk'9 F'9 N'9 => ?_); (case zzz => first | assumption | omega))
  trivial
theorem far_rt {b : Array UInt8} {off : Int} (e : reads 3 b off = .typ) : far b off = .typ := by unfold far; rw [e]
section
variable {b : Array UInt8} {pos v way size : Int} {a : Ans}
theorem rowB_7t (e : reads 7 b pos = .typ) : rowB b pos v = .typ := by unfold rowB; rw [e]
theorem rowB_7f (e : reads 7 b pos = .fin) : rowB b pos v = .fin := by unfold rowB; rw [e]
theorem rowB_2t (e : reads 7 b pos = .int way) (e2 : reads 2 b (pos - way) = .typ) : rowB b pos v = .typ := by unfold rowB; rw [e]; simp only [e2]
theorem rowB_2f (e : reads 7 b pos = .int way) (e2 : reads 2 b (pos - way) = .fin) : rowB b pos v = .fin := by unfold rowB; rw [e]; simp only [e2]
theorem rowB_ge (e : reads 7 b pos = .int way) (e2 : reads 2 b (pos - way) = .int size) (h : ¬ v < size) : rowB b pos v = .int 0 := by unfold rowB; rw [e]; simp only [e2, if_neg h]
theorem rowB_lt (e : reads 7 b pos = .int way) (e2 : reads 2 b (pos - way) = .int size) (h : v < size) (e3 : reads 2 b (pos - way + v) = a) : rowB b pos v = a := by unfold rowB; rw [e]; simp only [e2, if_pos h, e3]
end
theorem kw31 : True := by
  w_top off
  k_with "mine eq" => (first | (exact rowB_7t (by assumption)) | (exact rowB_7f (by assumption)) | (exact rowB_2t (by assumption) (by assumption)) | (exact rowB_2f (by assumption) (by assumption)) | (exact rowB_lt (by assumption) (by assumption) (by omega) (by assumption)) | (exact rowB_ge (by assumption) (by assumption) (by omega)) | (exact far_ri (by assumption)) | (exact far_rf (by assumption)) | (exact far_rt (by assumption)))
  trivial
section
variable {w : World} {mean : ExcName → Option Value} {mg mb : Str → Option Value} {p : Program} {loose : List Str} {news : List (Addr × Obj)} {lo : Addr} {vs : List Value} {c : Nat} {b : Array UInt8} {place pos v k : Int} {tp tk tv : Tok}
theorem lrow_ok (h0 : 0 ≤ pos) (h1 : pos < 2 ^ 33) (h2 : 0 ≤ v) (h3 : v < 2 ^ 17) (hb : b.size ≤ 64) (hi : IntsAre vs (ocs b)) (m1 : (lo, listOf vs.toArray c) ∈ news) :
    Calls w mean mg mb p loose 6 80 (.ref 353) [.ref lo, .int pos tp, .int v tv] news (fun Q E base h₀ L m fr s => Rets (rowB b pos v).val Q h₀ L m news s) := by
  unfold Calls
  k_fill
  intro dp un gd cn cs a ccd cl outer A₀ base h₀ L m s Q E B F X N T hf hd hu hret
  refine wpAny_call ?_
  k_dflt cell_enter
  k_steps
  all_goals (first | k_extra "mine end")
theorem lfar_ok (h0 : -(2 ^ 33) ≤ place) (h1 : place < 2 ^ 33) (hb : b.size ≤ 64) (hi : IntsAre vs (ocs b)) (m1 : (lo, listOf vs.toArray c) ∈ news) :
    Calls w mean mg mb p loose 6 80 (.ref 360) [.ref lo, .int place tp] news (fun Q E base h₀ L m fr s => Rets (far b place).val Q h₀ L m news s) := by
  unfold Calls
  k_fill
  intro dp un gd cn cs a ccd cl outer A₀ base h₀ L m s Q E B F X N T hf hd hu hret
  refine wpAny_call ?_
  k_dflt cell_enter
  k_steps
  all_goals (first | k_extra "mine end")
end
end
theorem kw32 : True := by
  w_top off
  k_with_none
  k_with "k_ne" => ((try dsimp only); with_reducible first | exact Nat.ne_of_lt (by k_extra "mine lt") | exact Nat.ne_of_gt (by k_extra "mine lt") | fail)
  k_with "mine lt" => (first | assumption | (refine Nat.lt_trans (by assumption) ?_; k_extra "mine lt"))
  k_with "mine ra" => ((case zzkB => k_asm); (case zzkF => k_asm); (case zzkX => k_asm); (case zzkN => k_asm); (case zzkT => k_asm); (case zzkf => first | exact rfl | assumption); (case zzkd => ktr_room); (case zzku => ktr_units))
  k_with "mine name" => (first | (name_kind "local"; refine' nameX_L (by k_asm) (by exact rfl) ?_ (by kernel_rfl) (by kernel_rfl) (by kernel_rfl); k_whole) | (name_kind "globalImplicit"; refine' nameX_K (by k_asm) (by k_asm) (by k_asm) (by k_is) ?_ (by kernel_rfl) (by kernel_rfl) (by kernel_rfl); k_whole) | (name_kind "globalImplicit"; refine' nameX_B (by k_asm) (by k_asm) (by k_asm) (by k_is) (by boot_fast) (by decide) ?_ (by kernel_rfl) (by kernel_rfl) (by kernel_rfl); k_whole))
  k_with "m eval Name" => (k_here; k_dflt k_extra "mine name")
  k_with "k_room" => (ktr_room)
  k_with "k_units" => (ktr_units)
  k_with "m getMethod ref" => (k_here; (with_reducible show wpAny _ _ (getMethod (Value.ref _) (PySem.Str.ofString "unpack_from") _) _ _ _); (refine' method_unpack ?zzhP ?_; (case zzhP => exact (Frag.In.keeps (by k_asm) (Fr.keep (by k_asm))) _ _ (by assumption)); k_whole))
  k_with "m call builtin:_struct.Struct.unpack_from" => (k_here; ((focus (refine' unpack_call ?zzhh ?zzF ?zzN ?zzhP ?zzhd ?zzPK ?zzh0 ?zzh1 ?zzhb ?zzhw (fun hin9 T'9 t'9 h'9 tk'9 F'9 N'9 l19 => ?_) (fun hin9 h'9 tk'9 e'9 x'9 => ?_); (case zzhh => rfl); (case zzF => k_asm); (case zzN => k_asm); (case zzhP => exact (Frag.In.keeps (by k_asm) (Fr.keep (by k_asm))) _ _ (by assumption)); (case zzhd => exact News.get (by k_asm) (by k_mem)); (case zzPK => assumption); (case zzh0 => assumption); (case zzh1 => omega); (case zzhb => assumption); (case zzhw => assumption); (all_goals ((try k_lt l19))); rotate_left))))
  k_with "m leaving ref" => (k_here; (first | (refine' leave_onX rfl ?zzk1 ?zzk2 ?zzk3 ?zzk4 ?_; (case zzk3 => assumption); (case zzk1 => assumption); (case zzk4 => assumption); (case zzk2 => assumption); k_whole; intro h' R' U'; (try dsimp only at R' U' ⊢)) | (refine' leave_newN ?zzk1 ?zzk0 ?zzk2 ?zzk3 ?_; (case zzk0 => assumption); (case zzk1 => assumption); (case zzk2 => assumption); (case zzk3 => k_asm); k_whole; intro h' R' U'; (try dsimp only at R' U' ⊢)) | (refine' leave_raiseN ?zzk1 ?zzk0 ?zzk2 ?zzk3 ?_; (case zzk0 => first | assumption | (exact Heap.MadeExc.of (by assumption))); (case zzk1 => assumption); (case zzk2 => assumption); (case zzk3 => k_asm); k_whole; intro h' R' U'; (try dsimp only at R' U' ⊢))))
  k_with "m getAttr ref" => (k_here; (first | (refine' cls_val ?zzk1 ?zzk2 ?zzk3 ?zzk4 ?zzk5 ?zzk6 ?_; (case zzk1 => k_asm); (case zzk2 => k_asm); (case zzk3 => exact Flag.ty (by assumption)); (case zzk4 => exact Flag.rd (by assumption)); (case zzk5 => first | (exact Flag.mn (by assumption)) | (exact Flag.mx (by assumption)) | (exact Flag.pkt (by assumption)) | assumption); (case zzk6 => rfl); k_whole) | (refine' cls_pyt ?zzX ?zzr ?zza ?zzb ?zzT ?_; (case zza => exact Flag.pyt (by assumption)); (case zzX => exact (Frag.In.keeps (by k_asm) (Fr.keep (by k_asm)))); (case zzr => exact Flag.rd (by assumption)); (case zzb => exact Flag.pym (by assumption)); (case zzT => first | exact FF.mt_int | exact FF.mt_bool | assumption); k_whole)))
  k_with "m compareOp LtE bool int" => (refine le_bool_int ?_)
  k_with "m compareOp LtE int bool" => (refine le_int_bool ?_)
  k_with "m call ref" => (k_here; (first | ((with_reducible show wpAny _ _ (call (Value.ref 220) [Value.int _ _, Value.ref 199]) _ _ _); (focus (k_dflt (refine' (enforce_U ?zzh0 ?zzh1).use ?zzkB ?zzkF ?zzkX ?zzkN ?zzkT ?zzkf ?zzkd ?zzku ⟨(fun hc9 t'9 h'9 tk'9 F'9 N'9 => ?_), (fun hc9 e'9 g'9 h'9 tk'9 FG'9 U'9 R'9 => ?_)⟩); (k_extra "mine ra"); (case zzh0 => first | assumption | omega); (case zzh1 => first | assumption | omega); (all_goals ((try (exfalso; omega)))); rotate_left))) | ((with_reducible show wpAny _ _ (call (Value.ref 220) [Value.int _ _, Value.ref 211]) _ _ _); (focus (k_dflt (refine' (enforce_V ?zzh0 ?zzh1).use ?zzkB ?zzkF ?zzkX ?zzkN ?zzkT ?zzkf ?zzkd ?zzku ⟨(fun hc9 t'9 h'9 tk'9 F'9 N'9 => ?_), (fun hc9 e'9 g'9 h'9 tk'9 FG'9 U'9 R'9 => ?_)⟩); (k_extra "mine ra"); (case zzh0 => first | assumption | omega); (case zzh1 => first | assumption | omega); (all_goals ((try (exfalso; omega)))); rotate_left))) | ((with_reducible show wpAny _ _ (call (Value.ref 220) [Value.int _ _, Value.ref _]) _ _ _); (focus (k_dflt (refine' (enforce_k ?zzhK ?zzhk ?zzh0 ?zzh1).use ?zzkB ?zzkF ?zzkX ?zzkN ?zzkT ?zzkf ?zzkd ?zzku ⟨(fun hc9 t'9 h'9 tk'9 F'9 N'9 => ?_), (fun hc9 e'9 g'9 h'9 tk'9 FG'9 U'9 R'9 => ?_)⟩; (case zzhK => assumption); (case zzhk => assumption)); (k_extra "mine ra"); (case zzh0 => first | assumption | omega); (case zzh1 => first | assumption | omega); (all_goals ((try (exfalso; omega)))); rotate_left)))))
  k_with "m getMethod ref" => (k_here; (with_reducible show wpAny _ _ (getMethod (Value.ref _) (PySem.Str.ofString "py_type") _) _ _ _); (refine' method_of_cls ?zzF ?zzX ?zzg ?_; (case zzF => k_asm); (case zzX => k_asm); (case zzg => exact Flag.sp (by assumption)); k_whole))
  k_with "m call ref" => (k_here; (first | ((with_reducible show wpAny _ _ (call (Value.ref 227) [Value.ref 46, Value.ref _, Value.int _ _]) _ _ _); k_dflt (refine' (get_encode_U ?zzh0 ?zzh1 ?zzhb ?zzhm).use ?zzkB ?zzkF ?zzkX ?zzkN ?zzkT ?zzkf ?zzkd ?zzku ?_); (k_extra "mine ra"); (case zzhm => k_extra "mine mem"); (case zzh0 => first | assumption | omega); (case zzh1 => first | assumption | omega); (case zzhb => assumption); (first | ((focus (refine saysRet_bool (fun i9 hv9 t'9 h'9 tk'9 F'9 N'9 => ?_) (fun hv9 e'9 g'9 h'9 tk'9 FG'9 U'9 R'9 => ?_); rotate_left))) | ((focus (refine saysRet_int ?zzhk ?zzhn (fun i9 hv9 hi9 t'9 h'9 tk'9 F'9 N'9 => ?_) (fun hv9 e'9 g'9 h'9 tk'9 FG'9 U'9 R'9 => ?_); (case zzhk => first | assumption | omega | decide); (case zzhn => first | assumption | omega); (all_goals ((try simp only [loK, hiK] at hi9))); rotate_left))))) | ((with_reducible show wpAny _ _ (call (Value.ref 227) [Value.ref _, Value.ref _, Value.int _ _]) _ _ _); k_dflt (refine' (get_encode ?zzhP ?zzPK ?zzh0 ?zzh1 ?zzhb ?zzhw ?zzhm).use ?zzkB ?zzkF ?zzkX ?zzkN ?zzkT ?zzkf ?zzkd ?zzku ?_; (case zzhP => assumption); (case zzPK => assumption); (case zzhw => assumption)); (k_extra "mine ra"); (case zzhm => k_extra "mine mem"); (case zzh0 => first | assumption | omega); (case zzh1 => first | assumption | omega); (case zzhb => assumption); (first | ((focus (refine saysRet_bool (fun i9 hv9 t'9 h'9 tk'9 F'9 N'9 => ?_) (fun hv9 e'9 g'9 h'9 tk'9 FG'9 U'9 R'9 => ?_); rotate_left))) | ((focus (refine saysRet_int ?zzhk ?zzhn (fun i9 hv9 hi9 t'9 h'9 tk'9 F'9 N'9 => ?_) (fun hv9 e'9 g'9 h'9 tk'9 FG'9 U'9 R'9 => ?_); (case zzhk => first | assumption | omega | decide); (case zzhn => first | assumption | omega); (all_goals ((try simp only [loK, hiK] at hi9))); rotate_left)))))))
  k_with "m call ref" => (k_here; (first | ((with_reducible show wpAny _ _ (call (Value.ref 291) [Value.ref _, Value.ref 187, Value.int _ _]) _ _ _); k_dflt (refine' (get_S ?zzh0 ?zzh1 ?zzhb ?zzm1 ?zzm2 ?zzm3).use ?zzkB ?zzkF ?zzkX ?zzkN ?zzkT ?zzkf ?zzkd ?zzku ?_); (k_extra "mine ra"); (case zzm1 => k_extra "mine mem"); (case zzm2 => k_extra "mine mem"); (case zzm3 => k_extra "mine mem"); (case zzh0 => first | assumption | omega); (case zzh1 => first | assumption | omega); (case zzhb => assumption); (focus (refine saysRet_reads (by decide) (fun i9 hv9 hr9 hi9 t'9 h'9 tk'9 F'9 N'9 => ?_) (fun hv9 hr9 e'9 g'9 h'9 tk'9 FG'9 U'9 R'9 => ?_) (fun hv9 hr9 e'9 g'9 h'9 tk'9 FG'9 U'9 R'9 => ?_); (all_goals ((try simp only [loK, hiK] at hi9); (try (exfalso; omega))))))) | ((with_reducible show wpAny _ _ (call (Value.ref 291) [Value.ref _, Value.ref 199, Value.int _ _]) _ _ _); k_dflt (refine' (get_U ?zzh0 ?zzh1 ?zzhb ?zzm1 ?zzm2 ?zzm3).use ?zzkB ?zzkF ?zzkX ?zzkN ?zzkT ?zzkf ?zzkd ?zzku ?_); (k_extra "mine ra"); (case zzm1 => k_extra "mine mem"); (case zzm2 => k_extra "mine mem"); (case zzm3 => k_extra "mine mem"); (case zzh0 => first | assumption | omega); (case zzh1 => first | assumption | omega); (case zzhb => assumption); (focus (refine saysRet_reads (by decide) (fun i9 hv9 hr9 hi9 t'9 h'9 tk'9 F'9 N'9 => ?_) (fun hv9 hr9 e'9 g'9 h'9 tk'9 FG'9 U'9 R'9 => ?_) (fun hv9 hr9 e'9 g'9 h'9 tk'9 FG'9 U'9 R'9 => ?_); (all_goals ((try simp only [loK, hiK] at hi9); (try (exfalso; omega))))))) | ((with_reducible show wpAny _ _ (call (Value.ref 291) [Value.ref _, Value.ref 211, Value.int _ _]) _ _ _); k_dflt (refine' (get_V ?zzh0 ?zzh1 ?zzhb ?zzm1 ?zzm2 ?zzm3).use ?zzkB ?zzkF ?zzkX ?zzkN ?zzkT ?zzkf ?zzkd ?zzku ?_); (k_extra "mine ra"); (case zzm1 => k_extra "mine mem"); (case zzm2 => k_extra "mine mem"); (case zzm3 => k_extra "mine mem"); (case zzh0 => first | assumption | omega); (case zzh1 => first | assumption | omega); (case zzhb => assumption); (focus (refine saysRet_reads (by decide) (fun i9 hv9 hr9 hi9 t'9 h'9 tk'9 F'9 N'9 => ?_) (fun hv9 hr9 e'9 g'9 h'9 tk'9 FG'9 U'9 R'9 => ?_) (fun hv9 hr9 e'9 g'9 h'9 tk'9 FG'9 U'9 R'9 => ?_); (all_goals ((try simp only [loK, hiK] at hi9); (try (exfalso; omega)))))))))
  k_with "mine end" => ((rename SaysRet _ _ _ _ _ _ _ _ _ _ => hR); (first | (exact hR.int (by k_extra "mine eq") _ _ _ (by assumption) (by first | assumption | exact cb_drop (by assumption) (by kcj_in))) | (exact hR.bytes (by k_extra "mine eq") _ _ _ (by assumption) (by first | assumption | exact cb_drop (by assumption) (by kcj_in))) | (exact hR.bool (by k_extra "mine eq") 0 _ _ (by assumption) (by first | assumption | exact cb_drop (by assumption) (by kcj_in))) | (exact hR.typ (by k_extra "mine eq") _ _ _ _ (by assumption) (by assumption) (by first | assumption | exact raisedSN_weak (by assumption) (by kcj_in))) | (exact hR.fin (by k_extra "mine eq") _ _ _ _ (by assumption) (by assumption) (by first | assumption | exact raisedSN_weak (by assumption) (by kcj_in)))))
  k_with "m call ref" => (k_here; (with_reducible show wpAny _ _ (call (Value.ref 249) [Value.ref _, Value.int _ _]) _ _ _); k_dflt (refine' (offset_ok ?zzh0 ?zzh1 ?zzh2 ?zzh3 ?zzhb ?zzm1 ?zzm2 ?zzm3).use ?zzkB ?zzkF ?zzkX ?zzkN ?zzkT ?zzkf ?zzkd ?zzku ?_); (k_extra "mine ra"); (case zzm1 => k_extra "mine mem"); (case zzm2 => k_extra "mine mem"); (case zzm3 => k_extra "mine mem"); (case zzh0 => first | assumption | omega); (case zzh1 => first | assumption | omega); (case zzh2 => first | assumption | omega); (case zzh3 => first | assumption | omega); (case zzhb => assumption); refine saysRet_row (fun i9 hv9 hi9 t'9 h'9 tk'9 F'9 N'9 => ?_) (fun hv9 e'9 g'9 h'9 tk'9 FG'9 U'9 R'9 => ?_) (fun hv9 e'9 g'9 h'9 tk'9 FG'9 U'9 R'9 => ?_))
  k_with "m call ref" => (k_here; (first | ((with_reducible show wpAny _ _ (call (Value.ref 220) [Value.int _ _, Value.ref 199]) _ _ _); k_dflt (refine' (enforce_U ?zzh0 ?zzh1).use ?zzkB ?zzkF ?zzkX ?zzkN ?zzkT ?zzkf ?zzkd ?zzku ?_); (k_extra "mine ra"); (case zzh0 => first | assumption | omega); (case zzh1 => first | assumption | omega); (focus (refine ⟨(fun hc9 t'9 h'9 tk'9 F'9 N'9 => ?_), (fun hc9 e'9 g'9 h'9 tk'9 FG'9 U'9 R'9 => ?_)⟩; (all_goals ((try (exfalso; omega)))); rotate_left))) | ((with_reducible show wpAny _ _ (call (Value.ref 220) [Value.int _ _, Value.ref 211]) _ _ _); k_dflt (refine' (enforce_V ?zzh0 ?zzh1).use ?zzkB ?zzkF ?zzkX ?zzkN ?zzkT ?zzkf ?zzkd ?zzku ?_); (k_extra "mine ra"); (case zzh0 => first | assumption | omega); (case zzh1 => first | assumption | omega); (focus (refine ⟨(fun hc9 t'9 h'9 tk'9 F'9 N'9 => ?_), (fun hc9 e'9 g'9 h'9 tk'9 FG'9 U'9 R'9 => ?_)⟩; (all_goals ((try (exfalso; omega)))); rotate_left))) | ((with_reducible show wpAny _ _ (call (Value.ref 220) [Value.int _ _, Value.ref _]) _ _ _); k_dflt (refine' (enforce_k ?zzhK ?zzhk ?zzh0 ?zzh1).use ?zzkB ?zzkF ?zzkX ?zzkN ?zzkT ?zzkf ?zzkd ?zzku ?_; (case zzhK => assumption); (case zzhk => first | assumption | omega)); (k_extra "mine ra"); (case zzh0 => first | assumption | omega); (case zzh1 => first | assumption | omega); (focus (refine ⟨(fun hc9 t'9 h'9 tk'9 F'9 N'9 => ?_), (fun hc9 e'9 g'9 h'9 tk'9 FG'9 U'9 R'9 => ?_)⟩; (all_goals ((try (exfalso; omega)))); rotate_left)))))
  k_with "m call ref" => (k_here; (first | ((with_reducible show wpAny _ _ (call (Value.ref 291) [Value.ref _, Value.ref 187, Value.int _ _]) _ _ _); fail) | ((with_reducible show wpAny _ _ (call (Value.ref 291) [Value.ref _, Value.ref 199, Value.int _ _]) _ _ _); fail) | ((with_reducible show wpAny _ _ (call (Value.ref 291) [Value.ref _, Value.ref 211, Value.int _ _]) _ _ _); fail) | ((with_reducible show wpAny _ _ (call (Value.ref 291) [Value.ref _, Value.ref _, Value.int _ _]) _ _ _); k_dflt (refine' (get_okN ?zzhK ?zzhk0 ?zzhw ?zzh0 ?zzh1 ?zzhb ?zzm1 ?zzm2 ?zzm3).use ?zzkB ?zzkF ?zzkX ?zzkN ?zzkT ?zzkf ?zzkd ?zzku ?_; (case zzhK => assumption); (case zzhk0 => assumption); (case zzhw => exact wdK_le _)); (k_extra "mine ra"); (case zzm1 => k_extra "mine mem"); (case zzm2 => k_extra "mine mem"); (case zzm3 => k_extra "mine mem"); (case zzh0 => first | assumption | omega); (case zzh1 => first | assumption | omega); (case zzhb => assumption); (focus (refine saysRet_reads (by assumption) (fun i9 hv9 hr9 hi9 t'9 h'9 tk'9 F'9 N'9 => ?_) (fun hv9 hr9 e'9 g'9 h'9 tk'9 FG'9 U'9 R'9 => ?_) (fun hv9 hr9 e'9 g'9 h'9 tk'9 FG'9 U'9 R'9 => ?_); (all_goals ((try (exfalso; omega))))))) | ((with_reducible show wpAny _ _ (call (Value.ref 291) [Value.ref _, Value.ref _, Value.int _ _]) _ _ _); k_dflt (refine' (get_ok0 ?zzhK ?zzh0 ?zzh1 ?zzhb ?zzm1 ?zzm2 ?zzm3).use ?zzkB ?zzkF ?zzkX ?zzkN ?zzkT ?zzkf ?zzkd ?zzku ?_; (case zzhK => assumption)); (k_extra "mine ra"); (case zzm1 => k_extra "mine mem"); (case zzm2 => k_extra "mine mem"); (case zzm3 => k_extra "mine mem"); (case zzh0 => first | assumption | omega); (case zzh1 => first | assumption | omega); (case zzhb => assumption); (focus (refine saysRet_reads0 (fun i9 hv9 hr9 t'9 h'9 tk'9 F'9 N'9 => ?_) (fun hv9 hr9 e'9 g'9 h'9 tk'9 FG'9 U'9 R'9 => ?_) (fun hv9 hr9 e'9 g'9 h'9 tk'9 FG'9 U'9 R'9 => ?_); (all_goals ((try (exfalso; omega)))))))))
  k_with "m call ref" => (k_here; (first | ((with_reducible show wpAny _ _ (call (Value.ref 220) [Value.bool _, Value.ref 61]) _ _ _); k_dflt (refine' (enforce_bb).use ?zzkB ?zzkF ?zzkX ?zzkN ?zzkT ?zzkf ?zzkd ?zzku ⟨?_, fun hc => (hc trivial).elim⟩); (k_extra "mine ra"); (intro hc t' h' tk' F' N')) | ((with_reducible show wpAny _ _ (call (Value.ref 220) [Value.int _ _, Value.ref 61]) _ _ _); k_dflt (refine' (enforce_bi ?zzhn).use ?zzkB ?zzkF ?zzkX ?zzkN ?zzkT ?zzkf ?zzkd ?zzku ⟨fun hc => hc.elim, ?_⟩; (case zzhn => assumption)); (k_extra "mine ra"); (intro hc e' g' h' tk' FG' U' R'))))
  k_with "mine mem" => (with_reducible first | assumption | exact List.mem_cons_self | (refine List.mem_cons_of_mem _ ?_; k_extra "mine mem"))
  k_with "k_mem" => (k_extra "mine mem")
  k_with "mine eq" => (assumption)
  k_with "m call ref" => (k_here; (with_reducible show wpAny _ _ (call (Value.ref 320) _) _ _ _); k_dflt (refine' (kinds_ok).use ?zzkB ?zzkF ?zzkX ?zzkN ?zzkT ?zzkf ?zzkd ?zzku ?_); (k_extra "mine ra"); intro l' D' h' tk' F' N' K')
  k_with "m subscriptTail" => (k_here; (with_reducible show wpAny _ _ (subscriptTail _ _ (Value.ref _) (Value.int _ _)) _ _ _); (with_unfolding_all (refine' kinds_item ?zzN ?zzm ?zzK ?zzh0 ?zzh1 ?zzhW ?_ ?zzhs); (case zzN => k_asm); (case zzm => k_extra "mine mem"); (case zzK => k_asm); (case zzh0 => first | assumption | omega); (case zzh1 => first | assumption | omega); (case zzhW => first | assumption | exact rfl); (case zzhs => with_unfolding_all rfl); k_whole); intro a' b' c' N')
  k_with "m UnrEnd" => (k_dflt (refine' unrEnd_tail ?zzF ?zzN ?zzoff ?_; (case zzF => k_asm); (case zzN => k_asm); (case zzoff => exact fun p hp => Nat.ne_of_lt (ktn_ltOf (by assumption) p hp)); k_whole))
  k_with "m call ref" => (k_here; (with_reducible show wpAny _ _ (call (Value.ref 339) _) _ _ _); k_dflt (refine' (number_ok ?zzh0 ?zzh1 ?zzhk0 ?zzhk1 ?zzhb ?zzhi ?zzm1).use ?zzkB ?zzkF ?zzkX ?zzkN ?zzkT ?zzkf ?zzkd ?zzku ?_); (k_extra "mine ra"); (case zzm1 => k_extra "mine mem"); (case zzhi => assumption); (case zzhb => assumption); (case zzh0 => first | assumption | omega); (case zzh1 => first | assumption | omega); (case zzhk0 => first | assumption | omega); (case zzhk1 => first | assumption | omega); (focus (refine rets_rd ?zzz (fun i9 hv9 hb9 t'9 h'9 tk'9 F'9 N'9 => ?_) (fun i9 hv9 t'9 h'9 tk'9 F'9 N'9 => ?_) (fun hv9 t'9 h'9 tk'9 F'9 N'9 => ?_); (case zzz => first | assumption | omega); (all_goals ((try simp only [Int.reduceToNat, loK, hiK] at hv9 hb9); (try simp only [Int.reduceToNat] at hv9); (try (exfalso; exact rd3_nobool hv9)))))))
  k_with "mine end" => ((rename Rets _ _ _ _ _ _ _ => hR); (first | (exact rets_int hR (by k_extra "mine eq") _ _ _ (by assumption) (by first | assumption | exact cb_drop (by assumption) (by kcj_in))) | (exact rets_typ hR (by k_extra "mine eq") _ _ _ (by assumption) (by first | assumption | exact cb_drop (by assumption) (by kcj_in))) | (exact rets_fin hR (by k_extra "mine eq") _ _ _ (by assumption) (by first | assumption | exact cb_drop (by assumption) (by kcj_in))) | (exact rets_bytes hR (by k_extra "mine eq") _ _ _ (by assumption) (by first | assumption | exact cb_drop (by assumption) (by kcj_in))) | (exact rets_bool hR (by k_extra "mine eq") 0 _ _ (by assumption) (by first | assumption | exact cb_drop (by assumption) (by kcj_in)))))
  k_with "m call ref" => (k_here; (with_reducible show wpAny _ _ (call (Value.ref 346) _) _ _ _); k_dflt (refine' (held_ok ?zzh0 ?zzh1 ?zzhk0 ?zzhk1 ?zzhb ?zzhi ?zzm1).use ?zzkB ?zzkF ?zzkX ?zzkN ?zzkT ?zzkf ?zzkd ?zzku ?_); (k_extra "mine ra"); (case zzm1 => k_extra "mine mem"); (case zzhi => assumption); (case zzhb => assumption); (case zzh0 => first | assumption | omega); (case zzh1 => first | assumption | omega); (case zzhk0 => first | assumption | omega); (case zzhk1 => first | assumption | omega); (first | ((focus (refine rets_reads ?zzz (fun i9 hv9 hr9 hb9 t'9 h'9 tk'9 F'9 N'9 => ?_) (fun hv9 hr9 t'9 h'9 tk'9 F'9 N'9 => ?_) (fun hv9 hr9 t'9 h'9 tk'9 F'9 N'9 => ?_); (case zzz => decide); (all_goals ((try simp only [Int.reduceToNat, loK, hiK] at hv9 hb9); (try (exfalso; omega)); (try simp only [Int.reduceToNat] at hv9)))))) | (refine rets_reads4 (fun i9 hv9 t'9 h'9 tk'9 F'9 N'9 => ?_) (fun i9 hv9 t'9 h'9 tk'9 F'9 N'9 => ?_) (fun hv9 t'9 h'9 tk'9 F'9 N'9 => ?_) (fun hv9 t'9 h'9 tk'9 F'9 N'9 => ?_)) | ((focus (refine rets_reads ?zzz (fun i9 hv9 hr9 hb9 t'9 h'9 tk'9 F'9 N'9 => ?_) (fun hv9 hr9 t'9 h'9 tk'9 F'9 N'9 => ?_) (fun hv9 hr9 t'9 h'9 tk'9 F'9 N'9 => ?_); (case zzz => first | decide | assumption | omega); (all_goals ((try simp only [Int.reduceToNat, loK, hiK] at hv9 hb9); (try (exfalso; omega)); (try simp only [Int.reduceToNat] at hv9))))))))
  k_with "mine held" => ((focus (refine rets_reads ?zzz (fun i9 hv9 hr9 hb9 t'9 h'9 tk'9 F'9 N'9 => ?_) (fun hv9 hr9 t'9 h'9 tk'9 F'9 N'9 => ?_) (fun hv9 hr9 t'9 h'9 tk'9 F'9 N'9 => ?_); (case zzz => first | decide | assumption | omega); (all_goals ((try simp only [Int.reduceToNat, loK, hiK] at hv9 hb9); (try (exfalso; omega)); (try simp only [Int.reduceToNat] at hv9))))))
  k_with "mine num" => ((focus (refine rets_rd ?zzz (fun i9 hv9 hb9 t'9 h'9 tk'9 F'9 N'9 => ?_) (fun i9 hv9 t'9 h'9 tk'9 F'9 N'9 => ?_) (fun hv9 t'9 h'9 tk'9 F'9 N'9 => ?_); (case zzz => first | assumption | omega); (all_goals ((try simp only [Int.reduceToNat, loK, hiK] at hv9 hb9); (try simp only [Int.reduceToNat] at hv9); (try (exfalso; exact rd3_nobool hv9)))))))
  k_with "m call ref" => (k_here; (first | ((with_reducible show wpAny _ _ (call (Value.ref 353) _) _ _ _); k_dflt (refine' (lrow_ok ?zzh0 ?zzh1 ?zzh2 ?zzh3 ?zzhb ?zzhi ?zzm1).use ?zzkB ?zzkF ?zzkX ?zzkN ?zzkT ?zzkf ?zzkd ?zzku ?_); (k_extra "mine ra"); (case zzm1 => k_extra "mine mem"); (case zzhi => assumption); (case zzhb => assumption); (case zzh0 => first | assumption | omega); (case zzh1 => first | assumption | omega); (case zzh2 => first | assumption | omega); (case zzh3 => first | assumption | omega); refine rets_row (fun i9 hv9 hb9 t'9 h'9 tk'9 F'9 N'9 => ?_) (fun hv9 t'9 h'9 tk'9 F'9 N'9 => ?_) (fun hv9 t'9 h'9 tk'9 F'9 N'9 => ?_)) | ((with_reducible show wpAny _ _ (call (Value.ref 360) _) _ _ _); k_dflt (refine' (lfar_ok ?zzh0 ?zzh1 ?zzhb ?zzhi ?zzm1).use ?zzkB ?zzkF ?zzkX ?zzkN ?zzkT ?zzkf ?zzkd ?zzku ?_); (k_extra "mine ra"); (case zzm1 => k_extra "mine mem"); (case zzhi => assumption); (case zzhb => assumption); (case zzh0 => first | assumption | omega); (case zzh1 => first | assumption | omega); (focus (refine rets_far (fun i9 hv9 hr9 hb9 t'9 h'9 tk'9 F'9 N'9 => ?_) (fun hv9 hr9 t'9 h'9 tk'9 F'9 N'9 => ?_) (fun hv9 hr9 t'9 h'9 tk'9 F'9 N'9 => ?_); (all_goals ((try (exfalso; omega)))))))))
  k_with "mine lrow" => (refine rets_row (fun i9 hv9 hb9 t'9 h'9 tk'9 F'9 N'9 => ?_) (fun hv9 t'9 h'9 tk'9 F'9 N'9 => ?_) (fun hv9 t'9 h'9 tk'9 F'9 N'9 => ?_))
  k_with "mine lfar" => ((focus (refine rets_far (fun i9 hv9 hr9 hb9 t'9 h'9 tk'9 F'9 N'9 => ?_) (fun hv9 hr9 t'9 h'9 tk'9 F'9 N'9 => ?_) (fun hv9 hr9 t'9 h'9 tk'9 F'9 N'9 => ?_); (all_goals ((try (exfalso; omega)))))))
  k_with "mine held" => (refine rets_reads4 (fun i9 hv9 t'9 h'9 tk'9 F'9 N'9 => ?_) (fun i9 hv9 t'9 h'9 tk'9 F'9 N'9 => ?_) (fun hv9 t'9 h'9 tk'9 F'9 N'9 => ?_) (fun hv9 t'9 h'9 tk'9 F'9 N'9 => ?_))
  k_with "mine held" => ((focus (refine rets_reads ?zzz (fun i9 hv9 hr9 hb9 t'9 h'9 tk'9 F'9 N'9 => ?_) (fun hv9 hr9 t'9 h'9 tk'9 F'9 N'9 => ?_) (fun hv9 hr9 t'9 h'9 tk'9 F'9 N'9 => ?_); (case zzz => decide); (all_goals ((try simp only [Int.reduceToNat, loK, hiK] at hv9 hb9); (try (exfalso; omega)); (try simp only [Int.reduceToNat] at hv9))))))
  trivial
section
section
variable {Q : Value → Shared → Prop} {h₀ : Heap} {L : Addr} {m : Str → Option Value} {s : Shared} {news : List (Addr × Obj)} {k : Nat} {b : Array UInt8} {off n pos v : Int}
theorem rets_row (hi : ∀ i, rowB b pos v = .int i → 0 ≤ i ∧ i ≤ 65535 → Rets (fun t => .int i t) Q h₀ L m news s) (ht : rowB b pos v = .typ → Rets (fun t => .str (Str.ofString "type") t) Q h₀ L m news s) (hf : rowB b pos v = .fin → Rets (fun t => .str (Str.ofString "end") t) Q h₀ L m news s) : Rets (rowB b pos v).val Q h₀ L m news s := by
  rcases row_shape b pos v with ⟨i, e, h⟩ | e | e
  · have := hi i e h; rw [e]; exact this
  · have := ht e; rw [e]; exact this
  · have := hf e; rw [e]; exact this
theorem rd3_nobool {i : Bool} (e : rd 3 b n = .bool i) : False := by
  unfold rd decode at e
  split at e <;> simp at e
theorem reads_shape4 : (∃ i, reads k b off = .int i) ∨ (∃ i, reads k b off = .bool i) ∨ reads k b off = .typ ∨ reads k b off = .fin := by
  unfold reads rd decode
  split
  · split
    · split
      · exact .inr (.inl ⟨_, rfl⟩)
      · exact .inl ⟨_, rfl⟩
    · exact .inr (.inr (.inr rfl))
  · exact .inr (.inr (.inl rfl))
theorem rets_reads4 (hi : ∀ i, reads k b off = .int i → Rets (fun t => .int i t) Q h₀ L m news s) (hb : ∀ i, reads k b off = .bool i → Rets (fun _ => .bool i) Q h₀ L m news s) (ht : reads k b off = .typ → Rets (fun t => .str (Str.ofString "type") t) Q h₀ L m news s) (hf : reads k b off = .fin → Rets (fun t => .str (Str.ofString "end") t) Q h₀ L m news s) : Rets (reads k b off).val Q h₀ L m news s := by
  rcases reads_shape4 (k := k) (b := b) (off := off) with ⟨i, e⟩ | ⟨i, e⟩ | e | e
  · have := hi i e; rw [e]; exact this
  · have := hb i e; rw [e]; exact this
  · have := ht e; rw [e]; exact this
  · have := hf e; rw [e]; exact this
theorem far_shape : (∃ i, far b off = .int (off + i) ∧ reads 3 b off = .int i ∧ (0 ≤ off ∧ off ≤ 4294967295) ∧ 0 ≤ i ∧ i ≤ 4294967295) ∨ (far b off = .typ ∧ ¬ (0 ≤ off ∧ off ≤ 4294967295)) ∨ (far b off = .fin ∧ (0 ≤ off ∧ off ≤ 4294967295)) := by
  by_cases h : 0 ≤ off ∧ off ≤ 4294967295
  · have e : reads 3 b off = rd 3 b off := if_pos h
    rcases rd_shape (k := 3) (b := b) (n := off) (by decide) with ⟨i, ei⟩ | ei
    · exact .inl ⟨i, far_ri (e.trans ei), e.trans ei, h, rd_bounds h.1 ei⟩
    · exact .inr (.inr ⟨far_rf (e.trans ei), h⟩)
  · exact .inr (.inl ⟨far_rt (if_neg h), h⟩)
theorem rets_far (hi : ∀ i, reads 3 b off = .int i → (0 ≤ off ∧ off ≤ 4294967295) → 0 ≤ i ∧ i ≤ 4294967295 → Rets (fun t => .int (off + i) t) Q h₀ L m news s) (ht : far b off = .typ → ¬ (0 ≤ off ∧ off ≤ 4294967295) → Rets (fun t => .str (Str.ofString "type") t) Q h₀ L m news s) (hf : far b off = .fin → (0 ≤ off ∧ off ≤ 4294967295) → Rets (fun t => .str (Str.ofString "end") t) Q h₀ L m news s) : Rets (far b off).val Q h₀ L m news s := by
  rcases far_shape (b := b) (off := off) with ⟨i, e, er, h, hb⟩ | ⟨e, h⟩ | ⟨e, h⟩
  · have := hi i er h hb; rw [e]; exact this
  · have := ht e h; rw [e]; exact this
  · have := hf e h; rw [e]; exact this
end
theorem kw33 : True := by
  w_top off
  k_with "mine eq" => (first | (exact slotB_0 (by assumption) (by omega)) | (exact slotB_i (by assumption) (by omega) (by assumption)) | (exact slotB_f (by assumption)) | (exact slotB_t (by assumption)))
  trivial
section
variable {w : World} {mean : ExcName → Option Value} {mg mb : Str → Option Value} {p : Program} {loose : List Str} {news : List (Addr × Obj)} {lo : Addr} {vs : List Value} {c : Nat} {b : Array UInt8} {place pos v k dd : Int} {bb : Bool} {tp tk tv td : Tok}
theorem lslotN_ok (h0 : 0 ≤ pos) (h1 : pos < 2 ^ 33) (h2 : 0 ≤ v) (h3 : v < 2 ^ 17) (hk0 : 0 ≤ k) (hk1 : k < 9) (hb : b.size ≤ 64) (hi : IntsAre vs (ocs b)) (m1 : (lo, listOf vs.toArray c) ∈ news) :
    Calls w mean mg mb p loose 7 90 (.ref 367) [.ref lo, .int pos tp, .int v tv, .int dd td, .int k tk] news (fun Q E base h₀ L m fr s => Rets (slotB b pos v (.int dd) k.toNat).val Q h₀ L m news s) := by
  unfold Calls
  k_fill
  intro dp un gd cn cs a ccd cl outer A₀ base h₀ L m s Q E B F X N T hf hd hu hret
  refine wpAny_call ?_
  k_dflt cell_enter
  k_steps
  all_goals (first | k_extra "mine end")
theorem lslot0_ok (h0 : 0 ≤ pos) (h1 : pos < 2 ^ 33) (h2 : 0 ≤ v) (h3 : v < 2 ^ 17) (hk0 : 0 ≤ k) (hk1 : k < 9) (hb : b.size ≤ 64) (hi : IntsAre vs (ocs b)) (m1 : (lo, listOf vs.toArray c) ∈ news) :
    Calls w mean mg mb p loose 7 90 (.ref 367) [.ref lo, .int pos tp, .int v tv, .bool bb, .int k tk] news (fun Q E base h₀ L m fr s => Rets (slotB b pos v (.bool bb) k.toNat).val Q h₀ L m news s) := by
  unfold Calls
  k_fill
  intro dp un gd cn cs a ccd cl outer A₀ base h₀ L m s Q E B F X N T hf hd hu hret
  refine wpAny_call ?_
  k_dflt cell_enter
  k_steps
  all_goals (first | k_extra "mine end")
abbrev vecTup (a c : Ans) (t u : Tok) : Obj := { cls := .type "tuple", data := .seq #[a.val t, c.val u] }
abbrev VecRet (a e : Ans) (news : List (Addr × Obj)) (Q : Value → Shared → Prop) (h₀ : Heap) (L : Addr) (m : Str → Option Value) (s : Shared) : Prop :=
  ∀ T t u h' tk', Fr h₀ L h' m → News h₀ L h' ((T, vecTup a e t u) :: news) → Q (.ref T) { s with heap := h', toks := tk' }
theorem vec_ii {a e : Ans} {Q : Value → Shared → Prop} {h₀ h' : Heap} {L T : Addr} {m : Str → Option Value} {s : Shared} {i j : Int} {t u : Tok} {tk' : Nat} (h : VecRet a e news Q h₀ L m s) (ea : a = .int i) (ee : e = .int j) (F : Fr h₀ L h' m) (N : News h₀ L h' ((T, { cls := .type "tuple", data := .seq #[.int i t, .int j u] }) :: news)) : Q (.ref T) { s with heap := h', toks := tk' } := by subst ea ee; exact h T t u _ _ F N
theorem vec_if {a e : Ans} {Q : Value → Shared → Prop} {h₀ h' : Heap} {L T : Addr} {m : Str → Option Value} {s : Shared} {i : Int} {t u : Tok} {tk' : Nat} (h : VecRet a e news Q h₀ L m s) (ea : a = .int i) (ee : e = .fin) (F : Fr h₀ L h' m) (N : News h₀ L h' ((T, { cls := .type "tuple", data := .seq #[.int i t, .str (Str.ofString "end") u] }) :: news)) : Q (.ref T) { s with heap := h', toks := tk' } := by subst ea ee; exact h T t u _ _ F N
theorem vec_ff {a e : Ans} {Q : Value → Shared → Prop} {h₀ h' : Heap} {L T : Addr} {m : Str → Option Value} {s : Shared} {t u : Tok} {tk' : Nat} (h : VecRet a e news Q h₀ L m s) (ea : a = .fin) (ee : e = .fin) (F : Fr h₀ L h' m) (N : News h₀ L h' ((T, { cls := .type "tuple", data := .seq #[.str (Str.ofString "end") t, .str (Str.ofString "end") u] }) :: news)) : Q (.ref T) { s with heap := h', toks := tk' } := by subst ea ee; exact h T t u _ _ F N
theorem vec_tt {a e : Ans} {Q : Value → Shared → Prop} {h₀ h' : Heap} {L T : Addr} {m : Str → Option Value} {s : Shared} {t u : Tok} {tk' : Nat} (h : VecRet a e news Q h₀ L m s) (ea : a = .typ) (ee : e = .typ) (F : Fr h₀ L h' m) (N : News h₀ L h' ((T, { cls := .type "tuple", data := .seq #[.str (Str.ofString "type") t, .str (Str.ofString "type") u] }) :: news)) : Q (.ref T) { s with heap := h', toks := tk' } := by subst ea ee; exact h T t u _ _ F N
theorem far_fin_reads (e : far b place = .fin) : reads 3 b place = .fin := by
  unfold far at e
  split at e
  · cases e
  · exact e
theorem far_typ_reads (e : far b place = .typ) : reads 3 b place = .typ := by
  unfold far at e
  split at e
  · cases e
  · exact e
theorem vec_f (e : far b place = .fin) : vec b place = .fin := vec_fin (far_fin_reads e)
theorem vec_t (e : far b place = .typ) : vec b place = .typ := by unfold vec; rw [far_typ_reads e]
theorem vlen_f (e : far b place = .fin) : vlen b place = .fin := by unfold vlen; rw [far_fin_reads e]
theorem vlen_t (e : far b place = .typ) : vlen b place = .typ := by unfold vlen; rw [far_typ_reads e]
theorem vlen_i {i : Int} {a : Ans} (e : reads 3 b place = .int i) (e2 : rd 3 b (place + i) = a) : vlen b place = a := by unfold vlen; rw [e]; exact e2
theorem lvec_ok (h0 : 0 ≤ place) (h1 : place < 2 ^ 33) (hb : b.size ≤ 64) (hi : IntsAre vs (ocs b)) (m1 : (lo, listOf vs.toArray c) ∈ news) :
    Calls w mean mg mb p loose 7 90 (.ref 381) [.ref lo, .int place tp] news (fun Q E base h₀ L m fr s => VecRet (vec b place) (vlen b place) news Q h₀ L m s) := by
  unfold Calls
  k_fill
  intro dp un gd cn cs a ccd cl outer A₀ base h₀ L m s Q E B F X N T hf hd hu hret
  refine wpAny_call ?_
  k_dflt cell_enter
  k_steps
  all_goals (first
    | exact vec_ff hret (vec_f (by assumption)) (vlen_f (by assumption)) (by assumption) (cb_drop (by assumption) (by kcj_in))
    | exact vec_tt hret (vec_t (by assumption)) (vlen_t (by assumption)) (by assumption) (cb_drop (by assumption) (by kcj_in))
    | exact vec_ii hret (vec_int (by assumption)) (vlen_i (by assumption) (by assumption)) (by assumption) (cb_drop (by assumption) (by kcj_in))
    | exact vec_if hret (vec_int (by assumption)) (vlen_i (by assumption) (by assumption)) (by assumption) (cb_drop (by assumption) (by kcj_in))
   )
end
end
section
theorem ocs_getD (b : Array UInt8) (i : Nat) (h : i < b.size) : (ocs b).getD i 0 = ((b.toList[i]'(by simpa using h)).toNat : Int) := by
  have hp : i < b.toList.length := by simpa using h
  unfold ocs
  rw [List.getD_eq_getElem?_getD, List.getElem?_map, List.getElem?_eq_getElem hp]
  rfl
theorem u8_back (x : UInt8) : ((x.toNat : Int)).toNat.toUInt8 = x := by
  simp
theorem pick_clip (s a : Nat) : PySem.clipAt s (a : Int) = min a s := by unfold PySem.clipAt; split <;> omega
theorem pick_cnt (s F M : Nat) : ((if (s : Int) < (F : Int) + M then (s : Int) else (F : Int) + M) - F).toNat = min (F + M) s - F := by split <;> omega
theorem pick_len (s F M : Nat) : min (F + M) s - F = min (min (F + M) s - min F s) (s - min F s) := by omega
theorem pick_lt {s F M i : Nat} (h : i < min (F + M) s - F) : F + i < s := by omega
theorem pick_at {s F i : Nat} (h : F + i < s) : F + i = min F s + i := by rw [Nat.min_eq_left (Nat.le_of_lt (Nat.lt_of_le_of_lt (Nat.le_add_right F i) h))]
theorem pick_law (b : Array UInt8) (f n : Int) (h0 : 0 ≤ f) (hn : 0 ≤ n) : ((List.map (fun j => (ocs b).getD j.toNat 0) (rangeKs f ((if ((ocs b).length : Int) < f + n then ((ocs b).length : Int) else f + n) - f).toNat)).map fun n => n.toNat.toUInt8).toArray = KBy.picked b (some f) (some (f + n)) := by
  rw [KBc.picked_eq, ocs_len]
  congr 1
  obtain ⟨F, rfl⟩ := Int.eq_ofNat_of_zero_le h0
  obtain ⟨M, rfl⟩ := Int.eq_ofNat_of_zero_le hn
  simp only [Option.elim]
  rw [pick_cnt, pick_clip, ← Int.natCast_add, pick_clip]
  apply List.ext_getElem
  · simp only [List.length_map, rangeKs, List.length_range, List.length_take, List.length_drop, Array.length_toList]
    exact pick_len _ _ _
  · intro i h1 h2
    simp only [List.length_map, rangeKs, List.length_range] at h1
    have hlt : F + i < b.size := pick_lt h1
    simp only [rangeKs, List.getElem_map, List.getElem_range, List.getElem_take, List.getElem_drop]
    have e : ((F : Int) + (i : Int)).toNat = F + i := by rw [← Int.natCast_add, Int.toNat_natCast]
    rw [e, ocs_getD b _ hlt, u8_back]
    congr 1
    exact pick_at hlt
theorem pick_in {b : Array UInt8} {l ns : List Int} (h : ns = l.map (fun j => (ocs b).getD j.toNat 0)) : ∀ n ∈ ns, 0 ≤ n ∧ n < 256 := by
  subst h
  intro n hn
  obtain ⟨j, _, rfl⟩ := List.mem_map.mp hn
  by_cases hj : j.toNat < b.size
  · rw [ocs_getD b _ hj]
    have := (b.toList[j.toNat]'(by simpa using hj)).toNat_lt
    omega
  · rw [List.getD_eq_getElem?_getD, List.getElem?_eq_none (by rw [ocs_len]; omega)]
    simp
section
variable {prog : Program} {w : World} {A : Around} {E : Value → Shared → Prop} {s : Shared} {h₀ : Heap} {L l : Addr} {m : Str → Option Value} {news : List (Addr × Obj)} {b : Array UInt8} {f n : Int} {vs : List Value} {ns : List Int} {c : Nat} {Q : Value → Shared → Prop}
theorem bytes_pick (F : Fr h₀ L s.heap m) (N : News h₀ L s.heap news) (hm : (l, listOf vs.toArray c) ∈ news) (hi : IntsAre vs ns) (hb : b.size ≤ 64) (h0 : 0 ≤ f) (hn : 0 ≤ n) (hh : A.handled = none)
    (e : ns = List.map (fun j => (ocs b).getD j.toNat 0) (rangeKs f ((if ((ocs b).length : Int) < f + n then ((ocs b).length : Int) else f + n) - f).toNat))
    (h : ∀ h' t k, Fr h₀ L h' m → News h₀ L h' news → Q (.bytes (KBy.picked b (some f) (some (f + n))) t) { s with heap := h', toks := k }) : wpAny (model prog w) A (call (.type "bytes") [.ref l]) Q E s := by
  have hlen : vs.length ≤ sizeLine := by
    rw [sizeLine_eq, hi.length, e, List.length_map, rangeKs_length, ocs_len]
    split <;> omega
  refine bytes_K F N ⟨_, N.get hm, rfl, _, rfl⟩ hi (pick_in e) hlen hh fun h' t k F' N' _ => ?_
  have := h h' t k F' N'
  rw [← pick_law b f n h0 hn, ← e] at this
  exact this
end
end
section
theorem all_and {news : List (Addr × Obj)} {d : Addr} {P : Prop} (h : P ∧ AllLt d news) : ∀ p ∈ news, p.1 ≠ d := fun p hp => Nat.ne_of_lt (ktn_ltOf h.2 p hp)
theorem kw34 : True := by
  w_top off
  k_with "k_all" => (with_reducible first | (exact all_and (by assumption)))
  k_with "size_fits" => ((rename _ < Int.toNat _ => hq); rw [List.size_toArray, sizeLine_eq]; split at hq <;> omega)
  k_with "m pyIter ref" => (k_state_given ["octets"] (fun xs pre found => found = pre.map (fun j => xs.getD j.toNat 0) ∧ found.length = pre.length) "found")
  k_with "m call type:bytes" => (k_here; (with_reducible show wpAny _ _ (call (Value.type _) [Value.ref _]) _ _ _); k_dflt (refine' bytes_pick ?zzF ?zzN ?zzm ?zzi ?zzhb ?zzh0 ?zzhn ?zzhh ?zze ?_; (case zzF => k_asm); (case zzN => k_asm); (case zzm => k_extra "mine mem"); (case zzi => assumption); (case zze => assumption); (case zzhb => assumption); (case zzh0 => omega); (case zzhn => omega); (case zzhh => with_unfolding_all rfl); k_whole); intro h' t' k' F' N')
  trivial
theorem far_int_inv {b : Array UInt8} {off i : Int} {n : Int} (e : reads 3 b off = .int i) (e2 : rd 3 b (off + i) = .int n) : str b off = .bytes (KBy.picked b (some (off + i + 4)) (some (off + i + 4 + n))) := by unfold str; rw [e]; simp only [e2]
theorem str_f {b : Array UInt8} {place : Int} (e : far b place = .fin) : str b place = .fin := by unfold str; rw [far_fin_reads e]
theorem str_f2 {b : Array UInt8} {place i : Int} (e : reads 3 b place = .int i) (e2 : rd 3 b (place + i) = .fin) : str b place = .fin := by unfold str; rw [e]; simp only [e2]
theorem kw35 : True := by
  w_top off
  k_with "mine eq" => (first | (exact far_int_inv (by assumption) (by assumption)) | (exact str_f (by assumption)) | (exact str_f2 (by assumption) (by assumption)))
  trivial
section
variable {w : World} {mean : ExcName → Option Value} {mg mb : Str → Option Value} {p : Program} {loose : List Str} {news : List (Addr × Obj)} {lo : Addr} {vs : List Value} {c : Nat} {b : Array UInt8} {place pos v k dd : Int} {bb : Bool} {tp tk tv td : Tok}
theorem lstr_ok (h0 : 0 ≤ place) (h1 : place < 2 ^ 20) (hb : b.size ≤ 64) (hi : IntsAre vs (ocs b)) (m1 : (lo, listOf vs.toArray c) ∈ news) :
    Calls w mean mg mb p loose 7 90 (.ref 374) [.ref lo, .int place tp] news (fun Q E base h₀ L m fr s => Rets (str b place).val Q h₀ L m news s) := by
  have hlen : (ocs b).length ≤ 64 := by rw [ocs_len]; exact hb
  unfold Calls
  k_fill
  intro dp un gd cn cs a ccd cl outer A₀ base h₀ L m s Q E B F X N T hf hd hu hret
  replace N := news_dup N m1
  refine wpAny_call ?_
  k_dflt cell_enter
  k_steps
  all_goals (first | k_extra "mine end")
end
end
theorem kw36 : True := by
  w_top off
  k_with_none
  k_with "k_ne" => ((try dsimp only); with_reducible first | exact Nat.ne_of_lt (by k_extra "mine lt") | exact Nat.ne_of_gt (by k_extra "mine lt") | fail)
  k_with "mine lt" => (first | assumption | (refine Nat.lt_trans (by assumption) ?_; k_extra "mine lt"))
  k_with "mine ra" => ((case zzkB => k_asm); (case zzkF => k_asm); (case zzkX => k_asm); (case zzkN => k_asm); (case zzkT => k_asm); (case zzkf => first | exact rfl | assumption); (case zzkd => ktr_room); (case zzku => ktr_units))
  k_with "mine name" => (first | (name_kind "local"; refine' nameX_L (by k_asm) (by exact rfl) ?_ (by kernel_rfl) (by kernel_rfl) (by kernel_rfl); k_whole) | (name_kind "globalImplicit"; refine' nameX_K (by k_asm) (by k_asm) (by k_asm) (by k_is) ?_ (by kernel_rfl) (by kernel_rfl) (by kernel_rfl); k_whole) | (name_kind "globalImplicit"; refine' nameX_B (by k_asm) (by k_asm) (by k_asm) (by k_is) (by boot_fast) (by decide) ?_ (by kernel_rfl) (by kernel_rfl) (by kernel_rfl); k_whole))
  k_with "m eval Name" => (k_here; k_dflt k_extra "mine name")
  k_with "k_room" => (ktr_room)
  k_with "k_units" => (ktr_units)
  k_with "m getMethod ref" => (k_here; (with_reducible show wpAny _ _ (getMethod (Value.ref _) (PySem.Str.ofString "unpack_from") _) _ _ _); (refine' method_unpack ?zzhP ?_; (case zzhP => exact (Frag.In.keeps (by k_asm) (Fr.keep (by k_asm))) _ _ (by assumption)); k_whole))
  k_with "m call builtin:_struct.Struct.unpack_from" => (k_here; ((focus (refine' unpack_call ?zzhh ?zzF ?zzN ?zzhP ?zzhd ?zzPK ?zzh0 ?zzh1 ?zzhb ?zzhw (fun hin9 T'9 t'9 h'9 tk'9 F'9 N'9 l19 => ?_) (fun hin9 h'9 tk'9 e'9 x'9 => ?_); (case zzhh => rfl); (case zzF => k_asm); (case zzN => k_asm); (case zzhP => exact (Frag.In.keeps (by k_asm) (Fr.keep (by k_asm))) _ _ (by assumption)); (case zzhd => exact News.get (by k_asm) (by k_mem)); (case zzPK => assumption); (case zzh0 => assumption); (case zzh1 => omega); (case zzhb => assumption); (case zzhw => assumption); (all_goals ((try k_lt l19))); rotate_left))))
  k_with "m leaving ref" => (k_here; (first | (refine' leave_onX rfl ?zzk1 ?zzk2 ?zzk3 ?zzk4 ?_; (case zzk3 => assumption); (case zzk1 => assumption); (case zzk4 => assumption); (case zzk2 => assumption); k_whole; intro h' R' U'; (try dsimp only at R' U' ⊢)) | (refine' leave_newN ?zzk1 ?zzk0 ?zzk2 ?zzk3 ?_; (case zzk0 => assumption); (case zzk1 => assumption); (case zzk2 => assumption); (case zzk3 => k_asm); k_whole; intro h' R' U'; (try dsimp only at R' U' ⊢)) | (refine' leave_raiseN ?zzk1 ?zzk0 ?zzk2 ?zzk3 ?_; (case zzk0 => first | assumption | (exact Heap.MadeExc.of (by assumption))); (case zzk1 => assumption); (case zzk2 => assumption); (case zzk3 => k_asm); k_whole; intro h' R' U'; (try dsimp only at R' U' ⊢))))
  k_with "m getAttr ref" => (k_here; (first | (refine' cls_val ?zzk1 ?zzk2 ?zzk3 ?zzk4 ?zzk5 ?zzk6 ?_; (case zzk1 => k_asm); (case zzk2 => k_asm); (case zzk3 => exact Flag.ty (by assumption)); (case zzk4 => exact Flag.rd (by assumption)); (case zzk5 => first | (exact Flag.mn (by assumption)) | (exact Flag.mx (by assumption)) | (exact Flag.pkt (by assumption)) | assumption); (case zzk6 => rfl); k_whole) | (refine' cls_pyt ?zzX ?zzr ?zza ?zzb ?zzT ?_; (case zza => exact Flag.pyt (by assumption)); (case zzX => exact (Frag.In.keeps (by k_asm) (Fr.keep (by k_asm)))); (case zzr => exact Flag.rd (by assumption)); (case zzb => exact Flag.pym (by assumption)); (case zzT => first | exact FF.mt_int | exact FF.mt_bool | assumption); k_whole)))
  k_with "m compareOp LtE bool int" => (refine le_bool_int ?_)
  k_with "m compareOp LtE int bool" => (refine le_int_bool ?_)
  k_with "m call ref" => (k_here; (first | ((with_reducible show wpAny _ _ (call (Value.ref 220) [Value.int _ _, Value.ref 199]) _ _ _); (focus (k_dflt (refine' (enforce_U ?zzh0 ?zzh1).use ?zzkB ?zzkF ?zzkX ?zzkN ?zzkT ?zzkf ?zzkd ?zzku ⟨(fun hc9 t'9 h'9 tk'9 F'9 N'9 => ?_), (fun hc9 e'9 g'9 h'9 tk'9 FG'9 U'9 R'9 => ?_)⟩); (k_extra "mine ra"); (case zzh0 => first | assumption | omega); (case zzh1 => first | assumption | omega); (all_goals ((try (exfalso; omega)))); rotate_left))) | ((with_reducible show wpAny _ _ (call (Value.ref 220) [Value.int _ _, Value.ref 211]) _ _ _); (focus (k_dflt (refine' (enforce_V ?zzh0 ?zzh1).use ?zzkB ?zzkF ?zzkX ?zzkN ?zzkT ?zzkf ?zzkd ?zzku ⟨(fun hc9 t'9 h'9 tk'9 F'9 N'9 => ?_), (fun hc9 e'9 g'9 h'9 tk'9 FG'9 U'9 R'9 => ?_)⟩); (k_extra "mine ra"); (case zzh0 => first | assumption | omega); (case zzh1 => first | assumption | omega); (all_goals ((try (exfalso; omega)))); rotate_left))) | ((with_reducible show wpAny _ _ (call (Value.ref 220) [Value.int _ _, Value.ref _]) _ _ _); (focus (k_dflt (refine' (enforce_k ?zzhK ?zzhk ?zzh0 ?zzh1).use ?zzkB ?zzkF ?zzkX ?zzkN ?zzkT ?zzkf ?zzkd ?zzku ⟨(fun hc9 t'9 h'9 tk'9 F'9 N'9 => ?_), (fun hc9 e'9 g'9 h'9 tk'9 FG'9 U'9 R'9 => ?_)⟩; (case zzhK => assumption); (case zzhk => assumption)); (k_extra "mine ra"); (case zzh0 => first | assumption | omega); (case zzh1 => first | assumption | omega); (all_goals ((try (exfalso; omega)))); rotate_left)))))
  k_with "m getMethod ref" => (k_here; (with_reducible show wpAny _ _ (getMethod (Value.ref _) (PySem.Str.ofString "py_type") _) _ _ _); (refine' method_of_cls ?zzF ?zzX ?zzg ?_; (case zzF => k_asm); (case zzX => k_asm); (case zzg => exact Flag.sp (by assumption)); k_whole))
  k_with "m call ref" => (k_here; (first | ((with_reducible show wpAny _ _ (call (Value.ref 227) [Value.ref 46, Value.ref _, Value.int _ _]) _ _ _); k_dflt (refine' (get_encode_U ?zzh0 ?zzh1 ?zzhb ?zzhm).use ?zzkB ?zzkF ?zzkX ?zzkN ?zzkT ?zzkf ?zzkd ?zzku ?_); (k_extra "mine ra"); (case zzhm => k_extra "mine mem"); (case zzh0 => first | assumption | omega); (case zzh1 => first | assumption | omega); (case zzhb => assumption); (first | ((focus (refine saysRet_bool (fun i9 hv9 t'9 h'9 tk'9 F'9 N'9 => ?_) (fun hv9 e'9 g'9 h'9 tk'9 FG'9 U'9 R'9 => ?_); rotate_left))) | ((focus (refine saysRet_int ?zzhk ?zzhn (fun i9 hv9 hi9 t'9 h'9 tk'9 F'9 N'9 => ?_) (fun hv9 e'9 g'9 h'9 tk'9 FG'9 U'9 R'9 => ?_); (case zzhk => first | assumption | omega | decide); (case zzhn => first | assumption | omega); (all_goals ((try simp only [loK, hiK] at hi9))); rotate_left))))) | ((with_reducible show wpAny _ _ (call (Value.ref 227) [Value.ref _, Value.ref _, Value.int _ _]) _ _ _); k_dflt (refine' (get_encode ?zzhP ?zzPK ?zzh0 ?zzh1 ?zzhb ?zzhw ?zzhm).use ?zzkB ?zzkF ?zzkX ?zzkN ?zzkT ?zzkf ?zzkd ?zzku ?_; (case zzhP => assumption); (case zzPK => assumption); (case zzhw => assumption)); (k_extra "mine ra"); (case zzhm => k_extra "mine mem"); (case zzh0 => first | assumption | omega); (case zzh1 => first | assumption | omega); (case zzhb => assumption); (first | ((focus (refine saysRet_bool (fun i9 hv9 t'9 h'9 tk'9 F'9 N'9 => ?_) (fun hv9 e'9 g'9 h'9 tk'9 FG'9 U'9 R'9 => ?_); rotate_left))) | ((focus (refine saysRet_int ?zzhk ?zzhn (fun i9 hv9 hi9 t'9 h'9 tk'9 F'9 N'9 => ?_) (fun hv9 e'9 g'9 h'9 tk'9 FG'9 U'9 R'9 => ?_); (case zzhk => first | assumption | omega | decide); (case zzhn => first | assumption | omega); (all_goals ((try simp only [loK, hiK] at hi9))); rotate_left)))))))
  k_with "m call ref" => (k_here; (first | ((with_reducible show wpAny _ _ (call (Value.ref 291) [Value.ref _, Value.ref 187, Value.int _ _]) _ _ _); k_dflt (refine' (get_S ?zzh0 ?zzh1 ?zzhb ?zzm1 ?zzm2 ?zzm3).use ?zzkB ?zzkF ?zzkX ?zzkN ?zzkT ?zzkf ?zzkd ?zzku ?_); (k_extra "mine ra"); (case zzm1 => k_extra "mine mem"); (case zzm2 => k_extra "mine mem"); (case zzm3 => k_extra "mine mem"); (case zzh0 => first | assumption | omega); (case zzh1 => first | assumption | omega); (case zzhb => assumption); (focus (refine saysRet_reads (by decide) (fun i9 hv9 hr9 hi9 t'9 h'9 tk'9 F'9 N'9 => ?_) (fun hv9 hr9 e'9 g'9 h'9 tk'9 FG'9 U'9 R'9 => ?_) (fun hv9 hr9 e'9 g'9 h'9 tk'9 FG'9 U'9 R'9 => ?_); (all_goals ((try simp only [loK, hiK] at hi9); (try (exfalso; omega))))))) | ((with_reducible show wpAny _ _ (call (Value.ref 291) [Value.ref _, Value.ref 199, Value.int _ _]) _ _ _); k_dflt (refine' (get_U ?zzh0 ?zzh1 ?zzhb ?zzm1 ?zzm2 ?zzm3).use ?zzkB ?zzkF ?zzkX ?zzkN ?zzkT ?zzkf ?zzkd ?zzku ?_); (k_extra "mine ra"); (case zzm1 => k_extra "mine mem"); (case zzm2 => k_extra "mine mem"); (case zzm3 => k_extra "mine mem"); (case zzh0 => first | assumption | omega); (case zzh1 => first | assumption | omega); (case zzhb => assumption); (focus (refine saysRet_reads (by decide) (fun i9 hv9 hr9 hi9 t'9 h'9 tk'9 F'9 N'9 => ?_) (fun hv9 hr9 e'9 g'9 h'9 tk'9 FG'9 U'9 R'9 => ?_) (fun hv9 hr9 e'9 g'9 h'9 tk'9 FG'9 U'9 R'9 => ?_); (all_goals ((try simp only [loK, hiK] at hi9); (try (exfalso; omega))))))) | ((with_reducible show wpAny _ _ (call (Value.ref 291) [Value.ref _, Value.ref 211, Value.int _ _]) _ _ _); k_dflt (refine' (get_V ?zzh0 ?zzh1 ?zzhb ?zzm1 ?zzm2 ?zzm3).use ?zzkB ?zzkF ?zzkX ?zzkN ?zzkT ?zzkf ?zzkd ?zzku ?_); (k_extra "mine ra"); (case zzm1 => k_extra "mine mem"); (case zzm2 => k_extra "mine mem"); (case zzm3 => k_extra "mine mem"); (case zzh0 => first | assumption | omega); (case zzh1 => first | assumption | omega); (case zzhb => assumption); (focus (refine saysRet_reads (by decide) (fun i9 hv9 hr9 hi9 t'9 h'9 tk'9 F'9 N'9 => ?_) (fun hv9 hr9 e'9 g'9 h'9 tk'9 FG'9 U'9 R'9 => ?_) (fun hv9 hr9 e'9 g'9 h'9 tk'9 FG'9 U'9 R'9 => ?_); (all_goals ((try simp only [loK, hiK] at hi9); (try (exfalso; omega)))))))))
  k_with "mine end" => ((rename SaysRet _ _ _ _ _ _ _ _ _ _ => hR); (first | (exact hR.int (by k_extra "mine eq") _ _ _ (by assumption) (by first | assumption | exact cb_drop (by assumption) (by kcj_in))) | (exact hR.bytes (by k_extra "mine eq") _ _ _ (by assumption) (by first | assumption | exact cb_drop (by assumption) (by kcj_in))) | (exact hR.bool (by k_extra "mine eq") 0 _ _ (by assumption) (by first | assumption | exact cb_drop (by assumption) (by kcj_in))) | (exact hR.typ (by k_extra "mine eq") _ _ _ _ (by assumption) (by assumption) (by first | assumption | exact raisedSN_weak (by assumption) (by kcj_in))) | (exact hR.fin (by k_extra "mine eq") _ _ _ _ (by assumption) (by assumption) (by first | assumption | exact raisedSN_weak (by assumption) (by kcj_in)))))
  k_with "m call ref" => (k_here; (with_reducible show wpAny _ _ (call (Value.ref 249) [Value.ref _, Value.int _ _]) _ _ _); k_dflt (refine' (offset_ok ?zzh0 ?zzh1 ?zzh2 ?zzh3 ?zzhb ?zzm1 ?zzm2 ?zzm3).use ?zzkB ?zzkF ?zzkX ?zzkN ?zzkT ?zzkf ?zzkd ?zzku ?_); (k_extra "mine ra"); (case zzm1 => k_extra "mine mem"); (case zzm2 => k_extra "mine mem"); (case zzm3 => k_extra "mine mem"); (case zzh0 => first | assumption | omega); (case zzh1 => first | assumption | omega); (case zzh2 => first | assumption | omega); (case zzh3 => first | assumption | omega); (case zzhb => assumption); refine saysRet_row (fun i9 hv9 hi9 t'9 h'9 tk'9 F'9 N'9 => ?_) (fun hv9 e'9 g'9 h'9 tk'9 FG'9 U'9 R'9 => ?_) (fun hv9 e'9 g'9 h'9 tk'9 FG'9 U'9 R'9 => ?_))
  k_with "m call ref" => (k_here; (first | ((with_reducible show wpAny _ _ (call (Value.ref 220) [Value.int _ _, Value.ref 199]) _ _ _); k_dflt (refine' (enforce_U ?zzh0 ?zzh1).use ?zzkB ?zzkF ?zzkX ?zzkN ?zzkT ?zzkf ?zzkd ?zzku ?_); (k_extra "mine ra"); (case zzh0 => first | assumption | omega); (case zzh1 => first | assumption | omega); (focus (refine ⟨(fun hc9 t'9 h'9 tk'9 F'9 N'9 => ?_), (fun hc9 e'9 g'9 h'9 tk'9 FG'9 U'9 R'9 => ?_)⟩; (all_goals ((try (exfalso; omega)))); rotate_left))) | ((with_reducible show wpAny _ _ (call (Value.ref 220) [Value.int _ _, Value.ref 211]) _ _ _); k_dflt (refine' (enforce_V ?zzh0 ?zzh1).use ?zzkB ?zzkF ?zzkX ?zzkN ?zzkT ?zzkf ?zzkd ?zzku ?_); (k_extra "mine ra"); (case zzh0 => first | assumption | omega); (case zzh1 => first | assumption | omega); (focus (refine ⟨(fun hc9 t'9 h'9 tk'9 F'9 N'9 => ?_), (fun hc9 e'9 g'9 h'9 tk'9 FG'9 U'9 R'9 => ?_)⟩; (all_goals ((try (exfalso; omega)))); rotate_left))) | ((with_reducible show wpAny _ _ (call (Value.ref 220) [Value.int _ _, Value.ref _]) _ _ _); k_dflt (refine' (enforce_k ?zzhK ?zzhk ?zzh0 ?zzh1).use ?zzkB ?zzkF ?zzkX ?zzkN ?zzkT ?zzkf ?zzkd ?zzku ?_; (case zzhK => assumption); (case zzhk => first | assumption | omega)); (k_extra "mine ra"); (case zzh0 => first | assumption | omega); (case zzh1 => first | assumption | omega); (focus (refine ⟨(fun hc9 t'9 h'9 tk'9 F'9 N'9 => ?_), (fun hc9 e'9 g'9 h'9 tk'9 FG'9 U'9 R'9 => ?_)⟩; (all_goals ((try (exfalso; omega)))); rotate_left)))))
  k_with "m call ref" => (k_here; (first | ((with_reducible show wpAny _ _ (call (Value.ref 291) [Value.ref _, Value.ref 187, Value.int _ _]) _ _ _); fail) | ((with_reducible show wpAny _ _ (call (Value.ref 291) [Value.ref _, Value.ref 199, Value.int _ _]) _ _ _); fail) | ((with_reducible show wpAny _ _ (call (Value.ref 291) [Value.ref _, Value.ref 211, Value.int _ _]) _ _ _); fail) | ((with_reducible show wpAny _ _ (call (Value.ref 291) [Value.ref _, Value.ref _, Value.int _ _]) _ _ _); k_dflt (refine' (get_okN ?zzhK ?zzhk0 ?zzhw ?zzh0 ?zzh1 ?zzhb ?zzm1 ?zzm2 ?zzm3).use ?zzkB ?zzkF ?zzkX ?zzkN ?zzkT ?zzkf ?zzkd ?zzku ?_; (case zzhK => assumption); (case zzhk0 => assumption); (case zzhw => exact wdK_le _)); (k_extra "mine ra"); (case zzm1 => k_extra "mine mem"); (case zzm2 => k_extra "mine mem"); (case zzm3 => k_extra "mine mem"); (case zzh0 => first | assumption | omega); (case zzh1 => first | assumption | omega); (case zzhb => assumption); (focus (refine saysRet_reads (by assumption) (fun i9 hv9 hr9 hi9 t'9 h'9 tk'9 F'9 N'9 => ?_) (fun hv9 hr9 e'9 g'9 h'9 tk'9 FG'9 U'9 R'9 => ?_) (fun hv9 hr9 e'9 g'9 h'9 tk'9 FG'9 U'9 R'9 => ?_); (all_goals ((try (exfalso; omega))))))) | ((with_reducible show wpAny _ _ (call (Value.ref 291) [Value.ref _, Value.ref _, Value.int _ _]) _ _ _); k_dflt (refine' (get_ok0 ?zzhK ?zzh0 ?zzh1 ?zzhb ?zzm1 ?zzm2 ?zzm3).use ?zzkB ?zzkF ?zzkX ?zzkN ?zzkT ?zzkf ?zzkd ?zzku ?_; (case zzhK => assumption)); (k_extra "mine ra"); (case zzm1 => k_extra "mine mem"); (case zzm2 => k_extra "mine mem"); (case zzm3 => k_extra "mine mem"); (case zzh0 => first | assumption | omega); (case zzh1 => first | assumption | omega); (case zzhb => assumption); (focus (refine saysRet_reads0 (fun i9 hv9 hr9 t'9 h'9 tk'9 F'9 N'9 => ?_) (fun hv9 hr9 e'9 g'9 h'9 tk'9 FG'9 U'9 R'9 => ?_) (fun hv9 hr9 e'9 g'9 h'9 tk'9 FG'9 U'9 R'9 => ?_); (all_goals ((try (exfalso; omega)))))))))
  k_with "m call ref" => (k_here; (first | ((with_reducible show wpAny _ _ (call (Value.ref 220) [Value.bool _, Value.ref 61]) _ _ _); k_dflt (refine' (enforce_bb).use ?zzkB ?zzkF ?zzkX ?zzkN ?zzkT ?zzkf ?zzkd ?zzku ⟨?_, fun hc => (hc trivial).elim⟩); (k_extra "mine ra"); (intro hc t' h' tk' F' N')) | ((with_reducible show wpAny _ _ (call (Value.ref 220) [Value.int _ _, Value.ref 61]) _ _ _); k_dflt (refine' (enforce_bi ?zzhn).use ?zzkB ?zzkF ?zzkX ?zzkN ?zzkT ?zzkf ?zzkd ?zzku ⟨fun hc => hc.elim, ?_⟩; (case zzhn => assumption)); (k_extra "mine ra"); (intro hc e' g' h' tk' FG' U' R'))))
  k_with "mine mem" => (with_reducible first | assumption | exact List.mem_cons_self | (refine List.mem_cons_of_mem _ ?_; k_extra "mine mem"))
  k_with "k_mem" => (k_extra "mine mem")
  k_with "mine eq" => (assumption)
  k_with "m call ref" => (k_here; (with_reducible show wpAny _ _ (call (Value.ref 320) _) _ _ _); k_dflt (refine' (kinds_ok).use ?zzkB ?zzkF ?zzkX ?zzkN ?zzkT ?zzkf ?zzkd ?zzku ?_); (k_extra "mine ra"); intro l' D' h' tk' F' N' K')
  k_with "m subscriptTail" => (k_here; (with_reducible show wpAny _ _ (subscriptTail _ _ (Value.ref _) (Value.int _ _)) _ _ _); (with_unfolding_all (refine' kinds_item ?zzN ?zzm ?zzK ?zzh0 ?zzh1 ?zzhW ?_ ?zzhs); (case zzN => k_asm); (case zzm => k_extra "mine mem"); (case zzK => k_asm); (case zzh0 => first | assumption | omega); (case zzh1 => first | assumption | omega); (case zzhW => first | assumption | exact rfl); (case zzhs => with_unfolding_all rfl); k_whole); intro a' b' c' N')
  k_with "m UnrEnd" => (k_dflt (refine' unrEnd_tail ?zzF ?zzN ?zzoff ?_; (case zzF => k_asm); (case zzN => k_asm); (case zzoff => exact fun p hp => Nat.ne_of_lt (ktn_ltOf (by assumption) p hp)); k_whole))
  k_with "m call ref" => (k_here; (with_reducible show wpAny _ _ (call (Value.ref 339) _) _ _ _); k_dflt (refine' (number_ok ?zzh0 ?zzh1 ?zzhk0 ?zzhk1 ?zzhb ?zzhi ?zzm1).use ?zzkB ?zzkF ?zzkX ?zzkN ?zzkT ?zzkf ?zzkd ?zzku ?_); (k_extra "mine ra"); (case zzm1 => k_extra "mine mem"); (case zzhi => assumption); (case zzhb => assumption); (case zzh0 => first | assumption | omega); (case zzh1 => first | assumption | omega); (case zzhk0 => first | assumption | omega); (case zzhk1 => first | assumption | omega); (focus (refine rets_rd ?zzz (fun i9 hv9 hb9 t'9 h'9 tk'9 F'9 N'9 => ?_) (fun i9 hv9 t'9 h'9 tk'9 F'9 N'9 => ?_) (fun hv9 t'9 h'9 tk'9 F'9 N'9 => ?_); (case zzz => first | assumption | omega); (all_goals ((try simp only [Int.reduceToNat, loK, hiK] at hv9 hb9); (try simp only [Int.reduceToNat] at hv9); (try (exfalso; exact rd3_nobool hv9)))))))
  k_with "mine end" => ((rename Rets _ _ _ _ _ _ _ => hR); (first | (exact rets_int hR (by k_extra "mine eq") _ _ _ (by assumption) (by first | assumption | exact cb_drop (by assumption) (by kcj_in))) | (exact rets_typ hR (by k_extra "mine eq") _ _ _ (by assumption) (by first | assumption | exact cb_drop (by assumption) (by kcj_in))) | (exact rets_fin hR (by k_extra "mine eq") _ _ _ (by assumption) (by first | assumption | exact cb_drop (by assumption) (by kcj_in))) | (exact rets_bytes hR (by k_extra "mine eq") _ _ _ (by assumption) (by first | assumption | exact cb_drop (by assumption) (by kcj_in))) | (exact rets_bool hR (by k_extra "mine eq") 0 _ _ (by assumption) (by first | assumption | exact cb_drop (by assumption) (by kcj_in)))))
  k_with "m call ref" => (k_here; (with_reducible show wpAny _ _ (call (Value.ref 346) _) _ _ _); k_dflt (refine' (held_ok ?zzh0 ?zzh1 ?zzhk0 ?zzhk1 ?zzhb ?zzhi ?zzm1).use ?zzkB ?zzkF ?zzkX ?zzkN ?zzkT ?zzkf ?zzkd ?zzku ?_); (k_extra "mine ra"); (case zzm1 => k_extra "mine mem"); (case zzhi => assumption); (case zzhb => assumption); (case zzh0 => first | assumption | omega); (case zzh1 => first | assumption | omega); (case zzhk0 => first | assumption | omega); (case zzhk1 => first | assumption | omega); (first | ((focus (refine rets_reads ?zzz (fun i9 hv9 hr9 hb9 t'9 h'9 tk'9 F'9 N'9 => ?_) (fun hv9 hr9 t'9 h'9 tk'9 F'9 N'9 => ?_) (fun hv9 hr9 t'9 h'9 tk'9 F'9 N'9 => ?_); (case zzz => decide); (all_goals ((try simp only [Int.reduceToNat, loK, hiK] at hv9 hb9); (try (exfalso; omega)); (try simp only [Int.reduceToNat] at hv9)))))) | (refine rets_reads4 (fun i9 hv9 t'9 h'9 tk'9 F'9 N'9 => ?_) (fun i9 hv9 t'9 h'9 tk'9 F'9 N'9 => ?_) (fun hv9 t'9 h'9 tk'9 F'9 N'9 => ?_) (fun hv9 t'9 h'9 tk'9 F'9 N'9 => ?_)) | ((focus (refine rets_reads ?zzz (fun i9 hv9 hr9 hb9 t'9 h'9 tk'9 F'9 N'9 => ?_) (fun hv9 hr9 t'9 h'9 tk'9 F'9 N'9 => ?_) (fun hv9 hr9 t'9 h'9 tk'9 F'9 N'9 => ?_); (case zzz => first | decide | assumption | omega); (all_goals ((try simp only [Int.reduceToNat, loK, hiK] at hv9 hb9); (try (exfalso; omega)); (try simp only [Int.reduceToNat] at hv9))))))))
  k_with "mine held" => ((focus (refine rets_reads ?zzz (fun i9 hv9 hr9 hb9 t'9 h'9 tk'9 F'9 N'9 => ?_) (fun hv9 hr9 t'9 h'9 tk'9 F'9 N'9 => ?_) (fun hv9 hr9 t'9 h'9 tk'9 F'9 N'9 => ?_); (case zzz => first | decide | assumption | omega); (all_goals ((try simp only [Int.reduceToNat, loK, hiK] at hv9 hb9); (try (exfalso; omega)); (try simp only [Int.reduceToNat] at hv9))))))
  k_with "mine num" => ((focus (refine rets_rd ?zzz (fun i9 hv9 hb9 t'9 h'9 tk'9 F'9 N'9 => ?_) (fun i9 hv9 t'9 h'9 tk'9 F'9 N'9 => ?_) (fun hv9 t'9 h'9 tk'9 F'9 N'9 => ?_); (case zzz => first | assumption | omega); (all_goals ((try simp only [Int.reduceToNat, loK, hiK] at hv9 hb9); (try simp only [Int.reduceToNat] at hv9); (try (exfalso; exact rd3_nobool hv9)))))))
  k_with "m call ref" => (k_here; (first | ((with_reducible show wpAny _ _ (call (Value.ref 353) _) _ _ _); k_dflt (refine' (lrow_ok ?zzh0 ?zzh1 ?zzh2 ?zzh3 ?zzhb ?zzhi ?zzm1).use ?zzkB ?zzkF ?zzkX ?zzkN ?zzkT ?zzkf ?zzkd ?zzku ?_); (k_extra "mine ra"); (case zzm1 => k_extra "mine mem"); (case zzhi => assumption); (case zzhb => assumption); (case zzh0 => first | assumption | omega); (case zzh1 => first | assumption | omega); (case zzh2 => first | assumption | omega); (case zzh3 => first | assumption | omega); refine rets_row (fun i9 hv9 hb9 t'9 h'9 tk'9 F'9 N'9 => ?_) (fun hv9 t'9 h'9 tk'9 F'9 N'9 => ?_) (fun hv9 t'9 h'9 tk'9 F'9 N'9 => ?_)) | ((with_reducible show wpAny _ _ (call (Value.ref 360) _) _ _ _); k_dflt (refine' (lfar_ok ?zzh0 ?zzh1 ?zzhb ?zzhi ?zzm1).use ?zzkB ?zzkF ?zzkX ?zzkN ?zzkT ?zzkf ?zzkd ?zzku ?_); (k_extra "mine ra"); (case zzm1 => k_extra "mine mem"); (case zzhi => assumption); (case zzhb => assumption); (case zzh0 => first | assumption | omega); (case zzh1 => first | assumption | omega); (focus (refine rets_far (fun i9 hv9 hr9 hb9 t'9 h'9 tk'9 F'9 N'9 => ?_) (fun hv9 hr9 t'9 h'9 tk'9 F'9 N'9 => ?_) (fun hv9 hr9 t'9 h'9 tk'9 F'9 N'9 => ?_); (all_goals ((try (exfalso; omega)))))))))
  k_with "mine lrow" => (refine rets_row (fun i9 hv9 hb9 t'9 h'9 tk'9 F'9 N'9 => ?_) (fun hv9 t'9 h'9 tk'9 F'9 N'9 => ?_) (fun hv9 t'9 h'9 tk'9 F'9 N'9 => ?_))
  k_with "mine lfar" => ((focus (refine rets_far (fun i9 hv9 hr9 hb9 t'9 h'9 tk'9 F'9 N'9 => ?_) (fun hv9 hr9 t'9 h'9 tk'9 F'9 N'9 => ?_) (fun hv9 hr9 t'9 h'9 tk'9 F'9 N'9 => ?_); (all_goals ((try (exfalso; omega)))))))
  k_with "mine held" => (refine rets_reads4 (fun i9 hv9 t'9 h'9 tk'9 F'9 N'9 => ?_) (fun i9 hv9 t'9 h'9 tk'9 F'9 N'9 => ?_) (fun hv9 t'9 h'9 tk'9 F'9 N'9 => ?_) (fun hv9 t'9 h'9 tk'9 F'9 N'9 => ?_))
  k_with "mine held" => ((focus (refine rets_reads ?zzz (fun i9 hv9 hr9 hb9 t'9 h'9 tk'9 F'9 N'9 => ?_) (fun hv9 hr9 t'9 h'9 tk'9 F'9 N'9 => ?_) (fun hv9 hr9 t'9 h'9 tk'9 F'9 N'9 => ?_); (case zzz => decide); (all_goals ((try simp only [Int.reduceToNat, loK, hiK] at hv9 hb9); (try (exfalso; omega)); (try simp only [Int.reduceToNat] at hv9))))))
  trivial
section
section
variable {w : World} {mean : ExcName → Option Value} {mg mb : Str → Option Value} {p : Program} {loose : List Str} {news : List (Addr × Obj)} {a0 : Ans} {t u : Tok}
theorem alike_int {i : Int} : Calls w mean mg mb p loose 2 40 (.ref 402) [.int i t, .int i u] news (fun Q E base h₀ L m fr s => Rets (fun _ => .bool true) Q h₀ L m news s) := by
  unfold Calls
  k_fill
  intro dp un gd cn cs a ccd cl outer A₀ base h₀ L m s Q E B F X N T hf hd hu hret
  refine wpAny_call ?_
  k_dflt cell_enter
  k_steps
  all_goals (first | exact hret 0 _ _ (by assumption) (by assumption) | (rw [beq_self_eq_true]; exact hret 0 _ _ (by assumption) (by assumption)))
theorem alike_bool {i : Bool} : Calls w mean mg mb p loose 2 40 (.ref 402) [.bool i, .bool i] news (fun Q E base h₀ L m fr s => Rets (fun _ => .bool true) Q h₀ L m news s) := by
  unfold Calls
  k_fill
  intro dp un gd cn cs a ccd cl outer A₀ base h₀ L m s Q E B F X N T hf hd hu hret
  refine wpAny_call ?_
  k_dflt cell_enter
  k_steps
  all_goals (first | exact hret 0 _ _ (by assumption) (by assumption) | (rw [beq_self_eq_true]; exact hret 0 _ _ (by assumption) (by assumption)))
theorem alike_bytes {i : Array UInt8} : Calls w mean mg mb p loose 2 40 (.ref 402) [.bytes i t, .bytes i u] news (fun Q E base h₀ L m fr s => Rets (fun _ => .bool true) Q h₀ L m news s) := by
  unfold Calls
  k_fill
  intro dp un gd cn cs a ccd cl outer A₀ base h₀ L m s Q E B F X N T hf hd hu hret
  refine wpAny_call ?_
  k_dflt cell_enter
  k_steps
  all_goals (first | exact hret 0 _ _ (by assumption) (by assumption) | (rw [beq_self_eq_true]; exact hret 0 _ _ (by assumption) (by assumption)))
theorem alike_typ : Calls w mean mg mb p loose 2 40 (.ref 402) [.str (Str.ofString "type") t, .str (Str.ofString "type") u] news (fun Q E base h₀ L m fr s => Rets (fun _ => .bool true) Q h₀ L m news s) := by
  unfold Calls
  k_fill
  intro dp un gd cn cs a ccd cl outer A₀ base h₀ L m s Q E B F X N T hf hd hu hret
  refine wpAny_call ?_
  k_dflt cell_enter
  k_steps
  all_goals (first | exact hret 0 _ _ (by assumption) (by assumption) | (rw [beq_self_eq_true]; exact hret 0 _ _ (by assumption) (by assumption)))
theorem alike_fin : Calls w mean mg mb p loose 2 40 (.ref 402) [.str (Str.ofString "end") t, .str (Str.ofString "end") u] news (fun Q E base h₀ L m fr s => Rets (fun _ => .bool true) Q h₀ L m news s) := by
  unfold Calls
  k_fill
  intro dp un gd cn cs a ccd cl outer A₀ base h₀ L m s Q E B F X N T hf hd hu hret
  refine wpAny_call ?_
  k_dflt cell_enter
  k_steps
  all_goals (first | exact hret 0 _ _ (by assumption) (by assumption) | (rw [beq_self_eq_true]; exact hret 0 _ _ (by assumption) (by assumption)))
theorem alike_ok : Calls w mean mg mb p loose 2 40 (.ref 402) [a0.val t, a0.val u] news (fun Q E base h₀ L m fr s => Rets (fun _ => .bool true) Q h₀ L m news s) := by
  cases a0 with
  | int i => exact alike_int
  | bool i => exact alike_bool
  | bytes i => exact alike_bytes
  | typ => exact alike_typ
  | fin => exact alike_fin
end
end
section
def Calls0 (w : World) (mean : ExcName → Option Value) (mg mb : Str → Option Value) (p : Program) (loose : List Str) (dd uu : Nat) (f : Value) (vs : List Value) (news : List (Addr × Obj)) (Ret : (Value → Shared → Prop) → (Value → Shared → Prop) → Heap → Heap → Addr → (Str → Option Value) → List Env → Shared → Prop) : Prop :=
  ∀ (dp un : Nat) (gd : Option (List Code)) (cn : Str) (cs : Scope) (a : Addr) (ccd : Value) (cl : List (Str × Addr)) (A₀ : Around) (base h₀ : Heap) (L : Addr) (m : Str → Option Value) (s : Shared) (Q E : Value → Shared → Prop),
    Below A₀ base [] h₀ → Fr h₀ L s.heap m → (hd.heap_1 w.params).In h₀ → News h₀ L s.heap news → Top p loose mean mg mb h₀ → (hd.heap_1 w.params).In base → Top p loose mean mg mb base → cs.kind = .function → 
    dp + dd < recursionLimit → un + uu < cLine →
    Ret Q E base h₀ L m [envX cn cs L a ccd cl] s →
    wpAny (model PySem.Challenge.rw_ke0006_01.row.prog w) (ktrTop dp un gd cn cs L a ccd cl []) (call f vs) Q E s
section
variable {Q E : Value → Shared → Prop} {base h₀ : Heap} {L : Addr} {m : Str → Option Value} {fr : List Env} {s : Shared} {news : List (Addr × Obj)}
theorem says_i {i : Int} (h : Rets (fun t => .int i t) Q h₀ L m news s) : SaysRet news (.int i) Q E base h₀ L m fr s := h
theorem says_b {i : Bool} (h : Rets (fun _ => .bool i) Q h₀ L m news s) : SaysRet news (.bool i) Q E base h₀ L m fr s := h
theorem says_y {i : Array UInt8} (h : Rets (fun t => .bytes i t) Q h₀ L m news s) : SaysRet news (.bytes i) Q E base h₀ L m fr s := h
theorem says_t (h : Raises "TypeError" E base h₀ L m fr news s) : SaysRet news .typ Q E base h₀ L m fr s := h
theorem says_f (h : Raises "struct.error" E base h₀ L m fr news s) : SaysRet news .fin Q E base h₀ L m fr s := h
end
theorem kw37 : True := by
  w_top off
  k_with "mine told" => (refine' code_defSX ?zzk1 ?zzk2 ?zzk3 ?zzk4 ?zzk5 ?zzkA ?zzkF ?zzkK ?zzk6 ?zzk7 ?zzk8 ?zzk9 ?zzkB ?_ ?zzc2 ?zzc3 ?zzc4 ?zzc5; (case zzkA => exact rfl); (case zzkF => exact rfl); (case zzkK => assumption); (case zzk1 => k_asm); (case zzk2 => k_asm); (case zzk3 => k_asm); (case zzk4 => k_asm); (case zzk5 => k_asm); (case zzk6 => k_is); (case zzk7 => k_is); (case zzk8 => ktr_room); (case zzk9 => exact BindsTo.of_eq rfl); (case zzc5 => decide); (case zzkB => exact locs rfl); (case zzc2 => exact rfl); (case zzc3 => exact rfl); (case zzc4 => exact rfl); k_whole; intro g' L' h' FG' F' N' B' X' T' D'; (try dsimp only); (try k_lift B'); (try k_fold))
  k_with "m call ref" => ((rename Calls _ _ _ _ _ _ _ _ _ _ _ _ => hL); k_dflt (refine' (hL).use ?zzkB ?zzkF ?zzkX ?zzkN ?zzkT ?zzkf ?zzkd ?zzku ?_); (k_extra "mine ra"); (k_extra "mine says"))
  k_with "m callWith ref" => (k_here; k_dflt (refine' callWith_F0 ?zzk1 ?_; (case zzk1 => exact FnAt.of (by k_asm) (by assumption)); k_whole; try dsimp only [List.nil_append, List.cons_append]))
  k_with "m FnAt" => (k_dflt (exact FnAt.of (by k_asm) (by assumption)))
  trivial
theorem sub_st : isSubtype (.type "struct.error") (.type "TypeError") = pure false := by rw [isSubtype_type]; kernel_rfl
theorem sub_ss : isSubtype (.type "struct.error") (.type "struct.error") = pure true := by rw [isSubtype_type]; kernel_rfl
theorem isExc_se : isSubtype (.type "struct.error") (.type "BaseException") = pure true := by rw [isSubtype_type]; kernel_rfl
theorem notTuple_se : isSubtype (.type ((Manifest.find? "struct.error").elim "type" fun y => y.metatype)) (.type "tuple") = pure false := by rw [find?_eq_fast, isSubtype_type]; kernel_rfl
theorem kw38 : True := by
  w_top off
  k_with "m noteFrame ref" => (k_here; k_dflt (refine' caught_two (X := "struct.error") (T' := "TypeError") (T₁ := "struct.error") ?zzR ?zzF ?zzK ?zzU ?zzXB ?zzTB ?zzD ?zzT0 ?zzex PyProof.Rows.Boot.«TypeError» ?zzhn PySem.F.isExc_TypeError PySem.F.notTuple_TypeError sub_st ?zzex1 isExc_se notTuple_se sub_ss ?_; (case zzR => assumption); (case zzF => assumption); (case zzK => assumption); (case zzU => assumption); (case zzXB => assumption); (case zzTB => assumption); (case zzD => assumption); (case zzT0 => first | assumption | exact KtsTurn.refl); (case zzex => k_is); (case zzex1 => k_is); (case zzhn => decide); k_whole); intro h' g' T' F' N' K' X' P' D'; (try k_lift K'))
  k_with "mine says" => (first | (refine says_i ?_; intro t' h' tk' F' N') | (refine says_b ?_; intro t' h' tk' F' N') | (refine says_y ?_; intro t' h' tk' F' N') | (refine says_t ?_; intro e' g' h' tk' FG' U' R') | (refine says_f ?_; intro e' g' h' tk' FG' U' R'))
  trivial
section
variable {w : World} {mean : ExcName → Option Value} {mg mb : Str → Option Value} {p : Program} {loose : List Str} {news : List (Addr × Obj)} {lam : Addr} {dd uu : Nat} {fd : FuncData}
theorem told_i {i : Int} (hfn : (lam, ({ cls := .type "function", data := .func fd } : Obj)) ∈ news) (hl : Calls w mean mg mb p loose dd uu (.ref lam) [] news (SaysRet news (.int i))) : Calls0 w mean mg mb p loose (dd + 4) (uu + 40) (.ref 388) [.ref lam] news (fun Q E base h₀ L m fr s => Rets (Ans.int i).val Q h₀ L m news s) := by
  unfold Calls0
  k_fill
  intro dp un gd cn cs a ccd cl A₀ base h₀ L m s Q E B F X N T XB TB hf hd hu hret
  refine wpAny_call ?_
  k_dflt k_extra "mine told"
  k_steps
  all_goals (first | exact hret _ _ _ (by assumption) (by assumption))
theorem told_b {i : Bool} (hfn : (lam, ({ cls := .type "function", data := .func fd } : Obj)) ∈ news) (hl : Calls w mean mg mb p loose dd uu (.ref lam) [] news (SaysRet news (.bool i))) : Calls0 w mean mg mb p loose (dd + 4) (uu + 40) (.ref 388) [.ref lam] news (fun Q E base h₀ L m fr s => Rets (Ans.bool i).val Q h₀ L m news s) := by
  unfold Calls0
  k_fill
  intro dp un gd cn cs a ccd cl A₀ base h₀ L m s Q E B F X N T XB TB hf hd hu hret
  refine wpAny_call ?_
  k_dflt k_extra "mine told"
  k_steps
  all_goals (first | exact hret 0 _ _ (by assumption) (by assumption))
theorem told_y {i : Array UInt8} (hfn : (lam, ({ cls := .type "function", data := .func fd } : Obj)) ∈ news) (hl : Calls w mean mg mb p loose dd uu (.ref lam) [] news (SaysRet news (.bytes i))) : Calls0 w mean mg mb p loose (dd + 4) (uu + 40) (.ref 388) [.ref lam] news (fun Q E base h₀ L m fr s => Rets (Ans.bytes i).val Q h₀ L m news s) := by
  unfold Calls0
  k_fill
  intro dp un gd cn cs a ccd cl A₀ base h₀ L m s Q E B F X N T XB TB hf hd hu hret
  refine wpAny_call ?_
  k_dflt k_extra "mine told"
  k_steps
  all_goals (first | exact hret _ _ _ (by assumption) (by assumption))
theorem told_t (hfn : (lam, ({ cls := .type "function", data := .func fd } : Obj)) ∈ news) (hl : Calls w mean mg mb p loose dd uu (.ref lam) [] news (SaysRet news .typ)) : Calls0 w mean mg mb p loose (dd + 4) (uu + 40) (.ref 388) [.ref lam] news (fun Q E base h₀ L m fr s => Rets Ans.typ.val Q h₀ L m news s) := by
  unfold Calls0
  k_fill
  intro dp un gd cn cs a ccd cl A₀ base h₀ L m s Q E B F X N T XB TB hf hd hu hret
  refine wpAny_call ?_
  k_dflt k_extra "mine told"
  k_steps
  all_goals (first | exact hret _ _ _ (by assumption) (by assumption))
theorem told_f (hfn : (lam, ({ cls := .type "function", data := .func fd } : Obj)) ∈ news) (hl : Calls w mean mg mb p loose dd uu (.ref lam) [] news (SaysRet news .fin)) : Calls0 w mean mg mb p loose (dd + 4) (uu + 40) (.ref 388) [.ref lam] news (fun Q E base h₀ L m fr s => Rets Ans.fin.val Q h₀ L m news s) := by
  unfold Calls0
  k_fill
  intro dp un gd cn cs a ccd cl A₀ base h₀ L m s Q E B F X N T XB TB hf hd hu hret
  refine wpAny_call ?_
  k_dflt k_extra "mine told"
  k_steps
  all_goals (first | exact hret _ _ _ (by assumption) (by assumption))
theorem told_ok {a : Ans} (hfn : (lam, ({ cls := .type "function", data := .func fd } : Obj)) ∈ news) (hl : Calls w mean mg mb p loose dd uu (.ref lam) [] news (SaysRet news a)) : Calls0 w mean mg mb p loose (dd + 4) (uu + 40) (.ref 388) [.ref lam] news (fun Q E base h₀ L m fr s => Rets a.val Q h₀ L m news s) := by
  cases a with
  | int i => exact told_i hfn hl
  | bool i => exact told_b hfn hl
  | bytes i => exact told_y hfn hl
  | typ => exact told_t hfn hl
  | fin => exact told_f hfn hl
end
end
theorem kw39 : True := by
  w_top off
  k_with_none
  k_with "k_ne" => ((try dsimp only); with_reducible first | exact Nat.ne_of_lt (by k_extra "mine lt") | exact Nat.ne_of_gt (by k_extra "mine lt") | fail)
  k_with "mine lt" => (first | assumption | (refine Nat.lt_trans (by assumption) ?_; k_extra "mine lt"))
  k_with "mine ra" => ((case zzkB => k_asm); (case zzkF => k_asm); (case zzkX => k_asm); (case zzkN => k_asm); (case zzkT => k_asm); (case zzkf => first | exact rfl | assumption); (case zzkd => ktr_room); (case zzku => ktr_units))
  k_with "mine name" => (first | (name_kind "local"; refine' nameX_L (by k_asm) (by exact rfl) ?_ (by kernel_rfl) (by kernel_rfl) (by kernel_rfl); k_whole) | (name_kind "globalImplicit"; refine' nameX_K (by k_asm) (by k_asm) (by k_asm) (by k_is) ?_ (by kernel_rfl) (by kernel_rfl) (by kernel_rfl); k_whole) | (name_kind "globalImplicit"; refine' nameX_B (by k_asm) (by k_asm) (by k_asm) (by k_is) (by boot_fast) (by decide) ?_ (by kernel_rfl) (by kernel_rfl) (by kernel_rfl); k_whole))
  k_with "m eval Name" => (k_here; k_dflt k_extra "mine name")
  k_with "k_room" => (ktr_room)
  k_with "k_units" => (ktr_units)
  k_with "m getMethod ref" => (k_here; (with_reducible show wpAny _ _ (getMethod (Value.ref _) (PySem.Str.ofString "unpack_from") _) _ _ _); (refine' method_unpack ?zzhP ?_; (case zzhP => exact (Frag.In.keeps (by k_asm) (Fr.keep (by k_asm))) _ _ (by assumption)); k_whole))
  k_with "m call builtin:_struct.Struct.unpack_from" => (k_here; ((focus (refine' unpack_call ?zzhh ?zzF ?zzN ?zzhP ?zzhd ?zzPK ?zzh0 ?zzh1 ?zzhb ?zzhw (fun hin9 T'9 t'9 h'9 tk'9 F'9 N'9 l19 => ?_) (fun hin9 h'9 tk'9 e'9 x'9 => ?_); (case zzhh => rfl); (case zzF => k_asm); (case zzN => k_asm); (case zzhP => exact (Frag.In.keeps (by k_asm) (Fr.keep (by k_asm))) _ _ (by assumption)); (case zzhd => exact News.get (by k_asm) (by k_mem)); (case zzPK => assumption); (case zzh0 => assumption); (case zzh1 => omega); (case zzhb => assumption); (case zzhw => assumption); (all_goals ((try k_lt l19))); rotate_left))))
  k_with "m leaving ref" => (k_here; (first | (refine' leave_onX rfl ?zzk1 ?zzk2 ?zzk3 ?zzk4 ?_; (case zzk3 => assumption); (case zzk1 => assumption); (case zzk4 => assumption); (case zzk2 => assumption); k_whole; intro h' R' U'; (try dsimp only at R' U' ⊢)) | (refine' leave_newN ?zzk1 ?zzk0 ?zzk2 ?zzk3 ?_; (case zzk0 => assumption); (case zzk1 => assumption); (case zzk2 => assumption); (case zzk3 => k_asm); k_whole; intro h' R' U'; (try dsimp only at R' U' ⊢)) | (refine' leave_raiseN ?zzk1 ?zzk0 ?zzk2 ?zzk3 ?_; (case zzk0 => first | assumption | (exact Heap.MadeExc.of (by assumption))); (case zzk1 => assumption); (case zzk2 => assumption); (case zzk3 => k_asm); k_whole; intro h' R' U'; (try dsimp only at R' U' ⊢))))
  k_with "m getAttr ref" => (k_here; (first | (refine' cls_val ?zzk1 ?zzk2 ?zzk3 ?zzk4 ?zzk5 ?zzk6 ?_; (case zzk1 => k_asm); (case zzk2 => k_asm); (case zzk3 => exact Flag.ty (by assumption)); (case zzk4 => exact Flag.rd (by assumption)); (case zzk5 => first | (exact Flag.mn (by assumption)) | (exact Flag.mx (by assumption)) | (exact Flag.pkt (by assumption)) | assumption); (case zzk6 => rfl); k_whole) | (refine' cls_pyt ?zzX ?zzr ?zza ?zzb ?zzT ?_; (case zza => exact Flag.pyt (by assumption)); (case zzX => exact (Frag.In.keeps (by k_asm) (Fr.keep (by k_asm)))); (case zzr => exact Flag.rd (by assumption)); (case zzb => exact Flag.pym (by assumption)); (case zzT => first | exact FF.mt_int | exact FF.mt_bool | assumption); k_whole)))
  k_with "m compareOp LtE bool int" => (refine le_bool_int ?_)
  k_with "m compareOp LtE int bool" => (refine le_int_bool ?_)
  k_with "m call ref" => (k_here; (first | ((with_reducible show wpAny _ _ (call (Value.ref 220) [Value.int _ _, Value.ref 199]) _ _ _); (focus (k_dflt (refine' (enforce_U ?zzh0 ?zzh1).use ?zzkB ?zzkF ?zzkX ?zzkN ?zzkT ?zzkf ?zzkd ?zzku ⟨(fun hc9 t'9 h'9 tk'9 F'9 N'9 => ?_), (fun hc9 e'9 g'9 h'9 tk'9 FG'9 U'9 R'9 => ?_)⟩); (k_extra "mine ra"); (case zzh0 => first | assumption | omega); (case zzh1 => first | assumption | omega); (all_goals ((try (exfalso; omega)))); rotate_left))) | ((with_reducible show wpAny _ _ (call (Value.ref 220) [Value.int _ _, Value.ref 211]) _ _ _); (focus (k_dflt (refine' (enforce_V ?zzh0 ?zzh1).use ?zzkB ?zzkF ?zzkX ?zzkN ?zzkT ?zzkf ?zzkd ?zzku ⟨(fun hc9 t'9 h'9 tk'9 F'9 N'9 => ?_), (fun hc9 e'9 g'9 h'9 tk'9 FG'9 U'9 R'9 => ?_)⟩); (k_extra "mine ra"); (case zzh0 => first | assumption | omega); (case zzh1 => first | assumption | omega); (all_goals ((try (exfalso; omega)))); rotate_left))) | ((with_reducible show wpAny _ _ (call (Value.ref 220) [Value.int _ _, Value.ref _]) _ _ _); (focus (k_dflt (refine' (enforce_k ?zzhK ?zzhk ?zzh0 ?zzh1).use ?zzkB ?zzkF ?zzkX ?zzkN ?zzkT ?zzkf ?zzkd ?zzku ⟨(fun hc9 t'9 h'9 tk'9 F'9 N'9 => ?_), (fun hc9 e'9 g'9 h'9 tk'9 FG'9 U'9 R'9 => ?_)⟩; (case zzhK => assumption); (case zzhk => assumption)); (k_extra "mine ra"); (case zzh0 => first | assumption | omega); (case zzh1 => first | assumption | omega); (all_goals ((try (exfalso; omega)))); rotate_left)))))
  k_with "m getMethod ref" => (k_here; (with_reducible show wpAny _ _ (getMethod (Value.ref _) (PySem.Str.ofString "py_type") _) _ _ _); (refine' method_of_cls ?zzF ?zzX ?zzg ?_; (case zzF => k_asm); (case zzX => k_asm); (case zzg => exact Flag.sp (by assumption)); k_whole))
  k_with "m call ref" => (k_here; (first | ((with_reducible show wpAny _ _ (call (Value.ref 227) [Value.ref 46, Value.ref _, Value.int _ _]) _ _ _); k_dflt (refine' (get_encode_U ?zzh0 ?zzh1 ?zzhb ?zzhm).use ?zzkB ?zzkF ?zzkX ?zzkN ?zzkT ?zzkf ?zzkd ?zzku ?_); (k_extra "mine ra"); (case zzhm => k_extra "mine mem"); (case zzh0 => first | assumption | omega); (case zzh1 => first | assumption | omega); (case zzhb => assumption); (first | ((focus (refine saysRet_bool (fun i9 hv9 t'9 h'9 tk'9 F'9 N'9 => ?_) (fun hv9 e'9 g'9 h'9 tk'9 FG'9 U'9 R'9 => ?_); rotate_left))) | ((focus (refine saysRet_int ?zzhk ?zzhn (fun i9 hv9 hi9 t'9 h'9 tk'9 F'9 N'9 => ?_) (fun hv9 e'9 g'9 h'9 tk'9 FG'9 U'9 R'9 => ?_); (case zzhk => first | assumption | omega | decide); (case zzhn => first | assumption | omega); (all_goals ((try simp only [loK, hiK] at hi9))); rotate_left))))) | ((with_reducible show wpAny _ _ (call (Value.ref 227) [Value.ref _, Value.ref _, Value.int _ _]) _ _ _); k_dflt (refine' (get_encode ?zzhP ?zzPK ?zzh0 ?zzh1 ?zzhb ?zzhw ?zzhm).use ?zzkB ?zzkF ?zzkX ?zzkN ?zzkT ?zzkf ?zzkd ?zzku ?_; (case zzhP => assumption); (case zzPK => assumption); (case zzhw => assumption)); (k_extra "mine ra"); (case zzhm => k_extra "mine mem"); (case zzh0 => first | assumption | omega); (case zzh1 => first | assumption | omega); (case zzhb => assumption); (first | ((focus (refine saysRet_bool (fun i9 hv9 t'9 h'9 tk'9 F'9 N'9 => ?_) (fun hv9 e'9 g'9 h'9 tk'9 FG'9 U'9 R'9 => ?_); rotate_left))) | ((focus (refine saysRet_int ?zzhk ?zzhn (fun i9 hv9 hi9 t'9 h'9 tk'9 F'9 N'9 => ?_) (fun hv9 e'9 g'9 h'9 tk'9 FG'9 U'9 R'9 => ?_); (case zzhk => first | assumption | omega | decide); (case zzhn => first | assumption | omega); (all_goals ((try simp only [loK, hiK] at hi9))); rotate_left)))))))
  k_with "m call ref" => (k_here; (first | ((with_reducible show wpAny _ _ (call (Value.ref 291) [Value.ref _, Value.ref 187, Value.int _ _]) _ _ _); k_dflt (refine' (get_S ?zzh0 ?zzh1 ?zzhb ?zzm1 ?zzm2 ?zzm3).use ?zzkB ?zzkF ?zzkX ?zzkN ?zzkT ?zzkf ?zzkd ?zzku ?_); (k_extra "mine ra"); (case zzm1 => k_extra "mine mem"); (case zzm2 => k_extra "mine mem"); (case zzm3 => k_extra "mine mem"); (case zzh0 => first | assumption | omega); (case zzh1 => first | assumption | omega); (case zzhb => assumption); (focus (refine saysRet_reads (by decide) (fun i9 hv9 hr9 hi9 t'9 h'9 tk'9 F'9 N'9 => ?_) (fun hv9 hr9 e'9 g'9 h'9 tk'9 FG'9 U'9 R'9 => ?_) (fun hv9 hr9 e'9 g'9 h'9 tk'9 FG'9 U'9 R'9 => ?_); (all_goals ((try simp only [loK, hiK] at hi9); (try (exfalso; omega))))))) | ((with_reducible show wpAny _ _ (call (Value.ref 291) [Value.ref _, Value.ref 199, Value.int _ _]) _ _ _); k_dflt (refine' (get_U ?zzh0 ?zzh1 ?zzhb ?zzm1 ?zzm2 ?zzm3).use ?zzkB ?zzkF ?zzkX ?zzkN ?zzkT ?zzkf ?zzkd ?zzku ?_); (k_extra "mine ra"); (case zzm1 => k_extra "mine mem"); (case zzm2 => k_extra "mine mem"); (case zzm3 => k_extra "mine mem"); (case zzh0 => first | assumption | omega); (case zzh1 => first | assumption | omega); (case zzhb => assumption); (focus (refine saysRet_reads (by decide) (fun i9 hv9 hr9 hi9 t'9 h'9 tk'9 F'9 N'9 => ?_) (fun hv9 hr9 e'9 g'9 h'9 tk'9 FG'9 U'9 R'9 => ?_) (fun hv9 hr9 e'9 g'9 h'9 tk'9 FG'9 U'9 R'9 => ?_); (all_goals ((try simp only [loK, hiK] at hi9); (try (exfalso; omega))))))) | ((with_reducible show wpAny _ _ (call (Value.ref 291) [Value.ref _, Value.ref 211, Value.int _ _]) _ _ _); k_dflt (refine' (get_V ?zzh0 ?zzh1 ?zzhb ?zzm1 ?zzm2 ?zzm3).use ?zzkB ?zzkF ?zzkX ?zzkN ?zzkT ?zzkf ?zzkd ?zzku ?_); (k_extra "mine ra"); (case zzm1 => k_extra "mine mem"); (case zzm2 => k_extra "mine mem"); (case zzm3 => k_extra "mine mem"); (case zzh0 => first | assumption | omega); (case zzh1 => first | assumption | omega); (case zzhb => assumption); (focus (refine saysRet_reads (by decide) (fun i9 hv9 hr9 hi9 t'9 h'9 tk'9 F'9 N'9 => ?_) (fun hv9 hr9 e'9 g'9 h'9 tk'9 FG'9 U'9 R'9 => ?_) (fun hv9 hr9 e'9 g'9 h'9 tk'9 FG'9 U'9 R'9 => ?_); (all_goals ((try simp only [loK, hiK] at hi9); (try (exfalso; omega)))))))))
  k_with "mine end" => ((rename SaysRet _ _ _ _ _ _ _ _ _ _ => hR); (first | (exact hR.int (by k_extra "mine eq") _ _ _ (by assumption) (by first | assumption | exact cb_drop (by assumption) (by kcj_in))) | (exact hR.bytes (by k_extra "mine eq") _ _ _ (by assumption) (by first | assumption | exact cb_drop (by assumption) (by kcj_in))) | (exact hR.bool (by k_extra "mine eq") 0 _ _ (by assumption) (by first | assumption | exact cb_drop (by assumption) (by kcj_in))) | (exact hR.typ (by k_extra "mine eq") _ _ _ _ (by assumption) (by assumption) (by first | assumption | exact raisedSN_weak (by assumption) (by kcj_in))) | (exact hR.fin (by k_extra "mine eq") _ _ _ _ (by assumption) (by assumption) (by first | assumption | exact raisedSN_weak (by assumption) (by kcj_in)))))
  k_with "m call ref" => (k_here; (with_reducible show wpAny _ _ (call (Value.ref 249) [Value.ref _, Value.int _ _]) _ _ _); k_dflt (refine' (offset_ok ?zzh0 ?zzh1 ?zzh2 ?zzh3 ?zzhb ?zzm1 ?zzm2 ?zzm3).use ?zzkB ?zzkF ?zzkX ?zzkN ?zzkT ?zzkf ?zzkd ?zzku ?_); (k_extra "mine ra"); (case zzm1 => k_extra "mine mem"); (case zzm2 => k_extra "mine mem"); (case zzm3 => k_extra "mine mem"); (case zzh0 => first | assumption | omega); (case zzh1 => first | assumption | omega); (case zzh2 => first | assumption | omega); (case zzh3 => first | assumption | omega); (case zzhb => assumption); refine saysRet_row (fun i9 hv9 hi9 t'9 h'9 tk'9 F'9 N'9 => ?_) (fun hv9 e'9 g'9 h'9 tk'9 FG'9 U'9 R'9 => ?_) (fun hv9 e'9 g'9 h'9 tk'9 FG'9 U'9 R'9 => ?_))
  k_with "m call ref" => (k_here; (first | ((with_reducible show wpAny _ _ (call (Value.ref 220) [Value.int _ _, Value.ref 199]) _ _ _); k_dflt (refine' (enforce_U ?zzh0 ?zzh1).use ?zzkB ?zzkF ?zzkX ?zzkN ?zzkT ?zzkf ?zzkd ?zzku ?_); (k_extra "mine ra"); (case zzh0 => first | assumption | omega); (case zzh1 => first | assumption | omega); (focus (refine ⟨(fun hc9 t'9 h'9 tk'9 F'9 N'9 => ?_), (fun hc9 e'9 g'9 h'9 tk'9 FG'9 U'9 R'9 => ?_)⟩; (all_goals ((try (exfalso; omega)))); rotate_left))) | ((with_reducible show wpAny _ _ (call (Value.ref 220) [Value.int _ _, Value.ref 211]) _ _ _); k_dflt (refine' (enforce_V ?zzh0 ?zzh1).use ?zzkB ?zzkF ?zzkX ?zzkN ?zzkT ?zzkf ?zzkd ?zzku ?_); (k_extra "mine ra"); (case zzh0 => first | assumption | omega); (case zzh1 => first | assumption | omega); (focus (refine ⟨(fun hc9 t'9 h'9 tk'9 F'9 N'9 => ?_), (fun hc9 e'9 g'9 h'9 tk'9 FG'9 U'9 R'9 => ?_)⟩; (all_goals ((try (exfalso; omega)))); rotate_left))) | ((with_reducible show wpAny _ _ (call (Value.ref 220) [Value.int _ _, Value.ref _]) _ _ _); k_dflt (refine' (enforce_k ?zzhK ?zzhk ?zzh0 ?zzh1).use ?zzkB ?zzkF ?zzkX ?zzkN ?zzkT ?zzkf ?zzkd ?zzku ?_; (case zzhK => assumption); (case zzhk => first | assumption | omega)); (k_extra "mine ra"); (case zzh0 => first | assumption | omega); (case zzh1 => first | assumption | omega); (focus (refine ⟨(fun hc9 t'9 h'9 tk'9 F'9 N'9 => ?_), (fun hc9 e'9 g'9 h'9 tk'9 FG'9 U'9 R'9 => ?_)⟩; (all_goals ((try (exfalso; omega)))); rotate_left)))))
  k_with "m call ref" => (k_here; (first | ((with_reducible show wpAny _ _ (call (Value.ref 291) [Value.ref _, Value.ref 187, Value.int _ _]) _ _ _); fail) | ((with_reducible show wpAny _ _ (call (Value.ref 291) [Value.ref _, Value.ref 199, Value.int _ _]) _ _ _); fail) | ((with_reducible show wpAny _ _ (call (Value.ref 291) [Value.ref _, Value.ref 211, Value.int _ _]) _ _ _); fail) | ((with_reducible show wpAny _ _ (call (Value.ref 291) [Value.ref _, Value.ref _, Value.int _ _]) _ _ _); k_dflt (refine' (get_okN ?zzhK ?zzhk0 ?zzhw ?zzh0 ?zzh1 ?zzhb ?zzm1 ?zzm2 ?zzm3).use ?zzkB ?zzkF ?zzkX ?zzkN ?zzkT ?zzkf ?zzkd ?zzku ?_; (case zzhK => assumption); (case zzhk0 => assumption); (case zzhw => exact wdK_le _)); (k_extra "mine ra"); (case zzm1 => k_extra "mine mem"); (case zzm2 => k_extra "mine mem"); (case zzm3 => k_extra "mine mem"); (case zzh0 => first | assumption | omega); (case zzh1 => first | assumption | omega); (case zzhb => assumption); (focus (refine saysRet_reads (by assumption) (fun i9 hv9 hr9 hi9 t'9 h'9 tk'9 F'9 N'9 => ?_) (fun hv9 hr9 e'9 g'9 h'9 tk'9 FG'9 U'9 R'9 => ?_) (fun hv9 hr9 e'9 g'9 h'9 tk'9 FG'9 U'9 R'9 => ?_); (all_goals ((try (exfalso; omega))))))) | ((with_reducible show wpAny _ _ (call (Value.ref 291) [Value.ref _, Value.ref _, Value.int _ _]) _ _ _); k_dflt (refine' (get_ok0 ?zzhK ?zzh0 ?zzh1 ?zzhb ?zzm1 ?zzm2 ?zzm3).use ?zzkB ?zzkF ?zzkX ?zzkN ?zzkT ?zzkf ?zzkd ?zzku ?_; (case zzhK => assumption)); (k_extra "mine ra"); (case zzm1 => k_extra "mine mem"); (case zzm2 => k_extra "mine mem"); (case zzm3 => k_extra "mine mem"); (case zzh0 => first | assumption | omega); (case zzh1 => first | assumption | omega); (case zzhb => assumption); (focus (refine saysRet_reads0 (fun i9 hv9 hr9 t'9 h'9 tk'9 F'9 N'9 => ?_) (fun hv9 hr9 e'9 g'9 h'9 tk'9 FG'9 U'9 R'9 => ?_) (fun hv9 hr9 e'9 g'9 h'9 tk'9 FG'9 U'9 R'9 => ?_); (all_goals ((try (exfalso; omega)))))))))
  k_with "m call ref" => (k_here; (first | ((with_reducible show wpAny _ _ (call (Value.ref 220) [Value.bool _, Value.ref 61]) _ _ _); k_dflt (refine' (enforce_bb).use ?zzkB ?zzkF ?zzkX ?zzkN ?zzkT ?zzkf ?zzkd ?zzku ⟨?_, fun hc => (hc trivial).elim⟩); (k_extra "mine ra"); (intro hc t' h' tk' F' N')) | ((with_reducible show wpAny _ _ (call (Value.ref 220) [Value.int _ _, Value.ref 61]) _ _ _); k_dflt (refine' (enforce_bi ?zzhn).use ?zzkB ?zzkF ?zzkX ?zzkN ?zzkT ?zzkf ?zzkd ?zzku ⟨fun hc => hc.elim, ?_⟩; (case zzhn => assumption)); (k_extra "mine ra"); (intro hc e' g' h' tk' FG' U' R'))))
  k_with "mine mem" => (with_reducible first | assumption | exact List.mem_cons_self | (refine List.mem_cons_of_mem _ ?_; k_extra "mine mem"))
  k_with "k_mem" => (k_extra "mine mem")
  k_with "mine eq" => (assumption)
  k_with "m call ref" => (k_here; (with_reducible show wpAny _ _ (call (Value.ref 320) _) _ _ _); k_dflt (refine' (kinds_ok).use ?zzkB ?zzkF ?zzkX ?zzkN ?zzkT ?zzkf ?zzkd ?zzku ?_); (k_extra "mine ra"); intro l' D' h' tk' F' N' K')
  k_with "m subscriptTail" => (k_here; (with_reducible show wpAny _ _ (subscriptTail _ _ (Value.ref _) (Value.int _ _)) _ _ _); (with_unfolding_all (refine' kinds_item ?zzN ?zzm ?zzK ?zzh0 ?zzh1 ?zzhW ?_ ?zzhs); (case zzN => k_asm); (case zzm => k_extra "mine mem"); (case zzK => k_asm); (case zzh0 => first | assumption | omega); (case zzh1 => first | assumption | omega); (case zzhW => first | assumption | exact rfl); (case zzhs => with_unfolding_all rfl); k_whole); intro a' b' c' N')
  k_with "m UnrEnd" => (k_dflt (refine' unrEnd_tail ?zzF ?zzN ?zzoff ?_; (case zzF => k_asm); (case zzN => k_asm); (case zzoff => exact fun p hp => Nat.ne_of_lt (ktn_ltOf (by assumption) p hp)); k_whole))
  k_with "m call ref" => (k_here; (with_reducible show wpAny _ _ (call (Value.ref 339) _) _ _ _); k_dflt (refine' (number_ok ?zzh0 ?zzh1 ?zzhk0 ?zzhk1 ?zzhb ?zzhi ?zzm1).use ?zzkB ?zzkF ?zzkX ?zzkN ?zzkT ?zzkf ?zzkd ?zzku ?_); (k_extra "mine ra"); (case zzm1 => k_extra "mine mem"); (case zzhi => assumption); (case zzhb => assumption); (case zzh0 => first | assumption | omega); (case zzh1 => first | assumption | omega); (case zzhk0 => first | assumption | omega); (case zzhk1 => first | assumption | omega); (focus (refine rets_rd ?zzz (fun i9 hv9 hb9 t'9 h'9 tk'9 F'9 N'9 => ?_) (fun i9 hv9 t'9 h'9 tk'9 F'9 N'9 => ?_) (fun hv9 t'9 h'9 tk'9 F'9 N'9 => ?_); (case zzz => first | assumption | omega); (all_goals ((try simp only [Int.reduceToNat, loK, hiK] at hv9 hb9); (try simp only [Int.reduceToNat] at hv9); (try (exfalso; exact rd3_nobool hv9)))))))
  k_with "mine end" => ((rename Rets _ _ _ _ _ _ _ => hR); (first | (exact rets_int hR (by k_extra "mine eq") _ _ _ (by assumption) (by first | assumption | exact cb_drop (by assumption) (by kcj_in))) | (exact rets_typ hR (by k_extra "mine eq") _ _ _ (by assumption) (by first | assumption | exact cb_drop (by assumption) (by kcj_in))) | (exact rets_fin hR (by k_extra "mine eq") _ _ _ (by assumption) (by first | assumption | exact cb_drop (by assumption) (by kcj_in))) | (exact rets_bytes hR (by k_extra "mine eq") _ _ _ (by assumption) (by first | assumption | exact cb_drop (by assumption) (by kcj_in))) | (exact rets_bool hR (by k_extra "mine eq") 0 _ _ (by assumption) (by first | assumption | exact cb_drop (by assumption) (by kcj_in)))))
  k_with "m call ref" => (k_here; (with_reducible show wpAny _ _ (call (Value.ref 346) _) _ _ _); k_dflt (refine' (held_ok ?zzh0 ?zzh1 ?zzhk0 ?zzhk1 ?zzhb ?zzhi ?zzm1).use ?zzkB ?zzkF ?zzkX ?zzkN ?zzkT ?zzkf ?zzkd ?zzku ?_); (k_extra "mine ra"); (case zzm1 => k_extra "mine mem"); (case zzhi => assumption); (case zzhb => assumption); (case zzh0 => first | assumption | omega); (case zzh1 => first | assumption | omega); (case zzhk0 => first | assumption | omega); (case zzhk1 => first | assumption | omega); (first | ((focus (refine rets_reads ?zzz (fun i9 hv9 hr9 hb9 t'9 h'9 tk'9 F'9 N'9 => ?_) (fun hv9 hr9 t'9 h'9 tk'9 F'9 N'9 => ?_) (fun hv9 hr9 t'9 h'9 tk'9 F'9 N'9 => ?_); (case zzz => decide); (all_goals ((try simp only [Int.reduceToNat, loK, hiK] at hv9 hb9); (try (exfalso; omega)); (try simp only [Int.reduceToNat] at hv9)))))) | (refine rets_reads4 (fun i9 hv9 t'9 h'9 tk'9 F'9 N'9 => ?_) (fun i9 hv9 t'9 h'9 tk'9 F'9 N'9 => ?_) (fun hv9 t'9 h'9 tk'9 F'9 N'9 => ?_) (fun hv9 t'9 h'9 tk'9 F'9 N'9 => ?_)) | ((focus (refine rets_reads ?zzz (fun i9 hv9 hr9 hb9 t'9 h'9 tk'9 F'9 N'9 => ?_) (fun hv9 hr9 t'9 h'9 tk'9 F'9 N'9 => ?_) (fun hv9 hr9 t'9 h'9 tk'9 F'9 N'9 => ?_); (case zzz => first | decide | assumption | omega); (all_goals ((try simp only [Int.reduceToNat, loK, hiK] at hv9 hb9); (try (exfalso; omega)); (try simp only [Int.reduceToNat] at hv9))))))))
  k_with "mine held" => ((focus (refine rets_reads ?zzz (fun i9 hv9 hr9 hb9 t'9 h'9 tk'9 F'9 N'9 => ?_) (fun hv9 hr9 t'9 h'9 tk'9 F'9 N'9 => ?_) (fun hv9 hr9 t'9 h'9 tk'9 F'9 N'9 => ?_); (case zzz => first | decide | assumption | omega); (all_goals ((try simp only [Int.reduceToNat, loK, hiK] at hv9 hb9); (try (exfalso; omega)); (try simp only [Int.reduceToNat] at hv9))))))
  k_with "mine num" => ((focus (refine rets_rd ?zzz (fun i9 hv9 hb9 t'9 h'9 tk'9 F'9 N'9 => ?_) (fun i9 hv9 t'9 h'9 tk'9 F'9 N'9 => ?_) (fun hv9 t'9 h'9 tk'9 F'9 N'9 => ?_); (case zzz => first | assumption | omega); (all_goals ((try simp only [Int.reduceToNat, loK, hiK] at hv9 hb9); (try simp only [Int.reduceToNat] at hv9); (try (exfalso; exact rd3_nobool hv9)))))))
  k_with "m call ref" => (k_here; (first | ((with_reducible show wpAny _ _ (call (Value.ref 353) _) _ _ _); k_dflt (refine' (lrow_ok ?zzh0 ?zzh1 ?zzh2 ?zzh3 ?zzhb ?zzhi ?zzm1).use ?zzkB ?zzkF ?zzkX ?zzkN ?zzkT ?zzkf ?zzkd ?zzku ?_); (k_extra "mine ra"); (case zzm1 => k_extra "mine mem"); (case zzhi => assumption); (case zzhb => assumption); (case zzh0 => first | assumption | omega); (case zzh1 => first | assumption | omega); (case zzh2 => first | assumption | omega); (case zzh3 => first | assumption | omega); refine rets_row (fun i9 hv9 hb9 t'9 h'9 tk'9 F'9 N'9 => ?_) (fun hv9 t'9 h'9 tk'9 F'9 N'9 => ?_) (fun hv9 t'9 h'9 tk'9 F'9 N'9 => ?_)) | ((with_reducible show wpAny _ _ (call (Value.ref 360) _) _ _ _); k_dflt (refine' (lfar_ok ?zzh0 ?zzh1 ?zzhb ?zzhi ?zzm1).use ?zzkB ?zzkF ?zzkX ?zzkN ?zzkT ?zzkf ?zzkd ?zzku ?_); (k_extra "mine ra"); (case zzm1 => k_extra "mine mem"); (case zzhi => assumption); (case zzhb => assumption); (case zzh0 => first | assumption | omega); (case zzh1 => first | assumption | omega); (focus (refine rets_far (fun i9 hv9 hr9 hb9 t'9 h'9 tk'9 F'9 N'9 => ?_) (fun hv9 hr9 t'9 h'9 tk'9 F'9 N'9 => ?_) (fun hv9 hr9 t'9 h'9 tk'9 F'9 N'9 => ?_); (all_goals ((try (exfalso; omega)))))))))
  k_with "mine lrow" => (refine rets_row (fun i9 hv9 hb9 t'9 h'9 tk'9 F'9 N'9 => ?_) (fun hv9 t'9 h'9 tk'9 F'9 N'9 => ?_) (fun hv9 t'9 h'9 tk'9 F'9 N'9 => ?_))
  k_with "mine lfar" => ((focus (refine rets_far (fun i9 hv9 hr9 hb9 t'9 h'9 tk'9 F'9 N'9 => ?_) (fun hv9 hr9 t'9 h'9 tk'9 F'9 N'9 => ?_) (fun hv9 hr9 t'9 h'9 tk'9 F'9 N'9 => ?_); (all_goals ((try (exfalso; omega)))))))
  k_with "mine held" => (refine rets_reads4 (fun i9 hv9 t'9 h'9 tk'9 F'9 N'9 => ?_) (fun i9 hv9 t'9 h'9 tk'9 F'9 N'9 => ?_) (fun hv9 t'9 h'9 tk'9 F'9 N'9 => ?_) (fun hv9 t'9 h'9 tk'9 F'9 N'9 => ?_))
  k_with "mine held" => ((focus (refine rets_reads ?zzz (fun i9 hv9 hr9 hb9 t'9 h'9 tk'9 F'9 N'9 => ?_) (fun hv9 hr9 t'9 h'9 tk'9 F'9 N'9 => ?_) (fun hv9 hr9 t'9 h'9 tk'9 F'9 N'9 => ?_); (case zzz => decide); (all_goals ((try simp only [Int.reduceToNat, loK, hiK] at hv9 hb9); (try (exfalso; omega)); (try simp only [Int.reduceToNat] at hv9))))))
  trivial
section
theorem vslot_far {b : Array UInt8} {pos v dd : Int} (h : 0 ≤ v) : vslot b pos (65536 + v) dd = .typ := vslot_typ (by omega)
theorem far_neg {b : Array UInt8} {off : Int} (h : 0 ≤ off) : far b (0 - 1 - off) = .typ := by
  unfold far reads
  rw [if_neg (by omega)]
/-- what the fourteen readings answer: what is told, and what is due -/
def rowP (b : Array UInt8) (pos v off kind : Int) (dA : Ans) : Nat → Ans × Ans
  | 0 => (rowB b pos v, rowB b pos v)
  | 1 => (reads kind.toNat b (pos + off), reads kind.toNat b (pos + off))
  | 2 => (slotB b pos v dA kind.toNat, slotB b pos v dA kind.toNat)
  | 3 => (.typ, .typ)
  | 4 => (.typ, .typ)
  | 5 => (vslot b pos v 65535, rowB b pos v)
  | 6 => (vslot b pos (65536 + v) 0, .typ)
  | 7 => (far b (pos + off), far b (pos + off))
  | 8 => (str b (pos + off), str b (pos + off))
  | 9 => (vec b (pos + off), vec b (pos + off))
  | 10 => (vlen b (pos + off), vlen b (pos + off))
  | 11 => (far b (pos + off), far b (pos + off))
  | 12 => (far b (0 - 1 - off), .typ)
  | 13 => (.typ, .typ)
  | _ => (.typ, .typ)
def RowsAre (b : Array UInt8) (pos v off kind : Int) (dA : Ans) (rs : List Value) (led : List (Addr × Obj)) : Prop :=
  rs.length = 14 ∧ ∀ k < 14, ∃ r t u, rs[k]? = some (.ref r) ∧ (r, vecTup (rowP b pos v off kind dA k).1 (rowP b pos v off kind dA k).2 t u) ∈ led
end
theorem kw40 : True := by
  w_top off
  k_with_none
  k_with "k_ne" => ((try dsimp only); with_reducible first | exact Nat.ne_of_lt (by k_extra "mine lt") | exact Nat.ne_of_gt (by k_extra "mine lt") | fail)
  k_with "mine lt" => (first | assumption | (refine Nat.lt_trans (by assumption) ?_; k_extra "mine lt"))
  k_with "mine rc" => ((case zzkB => k_asm); (case zzkF => k_asm); (case zzkX => k_asm); (case zzkN => k_asm); (case zzkT => k_asm); (case zzkf => first | k_dflt exact rfl | assumption); (case zzkd => k_extra "mine room"); (case zzku => k_extra "mine room"))
  k_with "mine ra" => ((case zzkB => k_asm); (case zzkF => k_asm); (case zzkX => k_asm); (case zzkN => k_asm); (case zzkT => k_asm); (case zzkf => first | exact rfl | assumption); (case zzkd => ktr_room); (case zzku => ktr_units))
  k_with "mine name" => (first | (name_kind "local"; refine' nameX_L (by k_asm) (by exact rfl) ?_ (by kernel_rfl) (by kernel_rfl) (by kernel_rfl); k_whole) | (name_kind "globalImplicit"; refine' nameX_K (by k_asm) (by k_asm) (by k_asm) (by k_is) ?_ (by kernel_rfl) (by kernel_rfl) (by kernel_rfl); k_whole) | (name_kind "globalImplicit"; refine' nameX_B (by k_asm) (by k_asm) (by k_asm) (by k_is) (by boot_fast) (by decide) ?_ (by kernel_rfl) (by kernel_rfl) (by kernel_rfl); k_whole))
  k_with "m eval Name" => (k_here; k_dflt k_extra "mine name")
  k_with "k_room" => (ktr_room)
  k_with "k_units" => (ktr_units)
  k_with "m getMethod ref" => (k_here; (with_reducible show wpAny _ _ (getMethod (Value.ref _) (PySem.Str.ofString "unpack_from") _) _ _ _); (refine' method_unpack ?zzhP ?_; (case zzhP => exact (Frag.In.keeps (by k_asm) (Fr.keep (by k_asm))) _ _ (by assumption)); k_whole))
  k_with "m call builtin:_struct.Struct.unpack_from" => (k_here; ((focus (refine' unpack_call ?zzhh ?zzF ?zzN ?zzhP ?zzhd ?zzPK ?zzh0 ?zzh1 ?zzhb ?zzhw (fun hin9 T'9 t'9 h'9 tk'9 F'9 N'9 l19 => ?_) (fun hin9 h'9 tk'9 e'9 x'9 => ?_); (case zzhh => rfl); (case zzF => k_asm); (case zzN => k_asm); (case zzhP => exact (Frag.In.keeps (by k_asm) (Fr.keep (by k_asm))) _ _ (by assumption)); (case zzhd => exact News.get (by k_asm) (by k_mem)); (case zzPK => assumption); (case zzh0 => assumption); (case zzh1 => omega); (case zzhb => assumption); (case zzhw => assumption); (all_goals ((try k_lt l19))); rotate_left))))
  k_with "m leaving ref" => (k_here; (first | (refine' leave_onX rfl ?zzk1 ?zzk2 ?zzk3 ?zzk4 ?_; (case zzk3 => assumption); (case zzk1 => assumption); (case zzk4 => assumption); (case zzk2 => assumption); k_whole; intro h' R' U'; (try dsimp only at R' U' ⊢)) | (refine' leave_newN ?zzk1 ?zzk0 ?zzk2 ?zzk3 ?_; (case zzk0 => assumption); (case zzk1 => assumption); (case zzk2 => assumption); (case zzk3 => k_asm); k_whole; intro h' R' U'; (try dsimp only at R' U' ⊢)) | (refine' leave_raiseN ?zzk1 ?zzk0 ?zzk2 ?zzk3 ?_; (case zzk0 => first | assumption | (exact Heap.MadeExc.of (by assumption))); (case zzk1 => assumption); (case zzk2 => assumption); (case zzk3 => k_asm); k_whole; intro h' R' U'; (try dsimp only at R' U' ⊢))))
  k_with "m getAttr ref" => (k_here; (first | (refine' cls_val ?zzk1 ?zzk2 ?zzk3 ?zzk4 ?zzk5 ?zzk6 ?_; (case zzk1 => k_asm); (case zzk2 => k_asm); (case zzk3 => exact Flag.ty (by assumption)); (case zzk4 => exact Flag.rd (by assumption)); (case zzk5 => first | (exact Flag.mn (by assumption)) | (exact Flag.mx (by assumption)) | (exact Flag.pkt (by assumption)) | assumption); (case zzk6 => rfl); k_whole) | (refine' cls_pyt ?zzX ?zzr ?zza ?zzb ?zzT ?_; (case zza => exact Flag.pyt (by assumption)); (case zzX => exact (Frag.In.keeps (by k_asm) (Fr.keep (by k_asm)))); (case zzr => exact Flag.rd (by assumption)); (case zzb => exact Flag.pym (by assumption)); (case zzT => first | exact FF.mt_int | exact FF.mt_bool | assumption); k_whole)))
  k_with "m compareOp LtE bool int" => (refine le_bool_int ?_)
  k_with "m compareOp LtE int bool" => (refine le_int_bool ?_)
  k_with "m call ref" => (k_here; (first | ((with_reducible show wpAny _ _ (call (Value.ref 220) [Value.int _ _, Value.ref 199]) _ _ _); (focus (k_dflt (refine' (enforce_U ?zzh0 ?zzh1).use ?zzkB ?zzkF ?zzkX ?zzkN ?zzkT ?zzkf ?zzkd ?zzku ⟨(fun hc9 t'9 h'9 tk'9 F'9 N'9 => ?_), (fun hc9 e'9 g'9 h'9 tk'9 FG'9 U'9 R'9 => ?_)⟩); (k_extra "mine ra"); (case zzh0 => first | assumption | omega); (case zzh1 => first | assumption | omega); (all_goals ((try (exfalso; omega)))); rotate_left))) | ((with_reducible show wpAny _ _ (call (Value.ref 220) [Value.int _ _, Value.ref 211]) _ _ _); (focus (k_dflt (refine' (enforce_V ?zzh0 ?zzh1).use ?zzkB ?zzkF ?zzkX ?zzkN ?zzkT ?zzkf ?zzkd ?zzku ⟨(fun hc9 t'9 h'9 tk'9 F'9 N'9 => ?_), (fun hc9 e'9 g'9 h'9 tk'9 FG'9 U'9 R'9 => ?_)⟩); (k_extra "mine ra"); (case zzh0 => first | assumption | omega); (case zzh1 => first | assumption | omega); (all_goals ((try (exfalso; omega)))); rotate_left))) | ((with_reducible show wpAny _ _ (call (Value.ref 220) [Value.int _ _, Value.ref _]) _ _ _); (focus (k_dflt (refine' (enforce_k ?zzhK ?zzhk ?zzh0 ?zzh1).use ?zzkB ?zzkF ?zzkX ?zzkN ?zzkT ?zzkf ?zzkd ?zzku ⟨(fun hc9 t'9 h'9 tk'9 F'9 N'9 => ?_), (fun hc9 e'9 g'9 h'9 tk'9 FG'9 U'9 R'9 => ?_)⟩; (case zzhK => assumption); (case zzhk => assumption)); (k_extra "mine ra"); (case zzh0 => first | assumption | omega); (case zzh1 => first | assumption | omega); (all_goals ((try (exfalso; omega)))); rotate_left)))))
  k_with "m getMethod ref" => (k_here; (with_reducible show wpAny _ _ (getMethod (Value.ref _) (PySem.Str.ofString "py_type") _) _ _ _); (refine' method_of_cls ?zzF ?zzX ?zzg ?_; (case zzF => k_asm); (case zzX => k_asm); (case zzg => exact Flag.sp (by assumption)); k_whole))
  k_with "m call ref" => (k_here; (first | ((with_reducible show wpAny _ _ (call (Value.ref 227) [Value.ref 46, Value.ref _, Value.int _ _]) _ _ _); k_dflt (refine' (get_encode_U ?zzh0 ?zzh1 ?zzhb ?zzhm).use ?zzkB ?zzkF ?zzkX ?zzkN ?zzkT ?zzkf ?zzkd ?zzku ?_); (k_extra "mine rc"); (case zzhm => k_extra "mine mem"); (case zzh0 => first | assumption | omega); (case zzh1 => first | assumption | omega); (case zzhb => assumption); (first | ((focus (refine saysRet_bool (fun i9 hv9 t'9 h'9 tk'9 F'9 N'9 => ?_) (fun hv9 e'9 g'9 h'9 tk'9 FG'9 U'9 R'9 => ?_); rotate_left))) | ((focus (refine saysRet_int ?zzhk ?zzhn (fun i9 hv9 hi9 t'9 h'9 tk'9 F'9 N'9 => ?_) (fun hv9 e'9 g'9 h'9 tk'9 FG'9 U'9 R'9 => ?_); (case zzhk => first | assumption | omega | decide); (case zzhn => first | assumption | omega); (all_goals ((try simp only [loK, hiK] at hi9))); rotate_left))))) | ((with_reducible show wpAny _ _ (call (Value.ref 227) [Value.ref _, Value.ref _, Value.int _ _]) _ _ _); k_dflt (refine' (get_encode ?zzhP ?zzPK ?zzh0 ?zzh1 ?zzhb ?zzhw ?zzhm).use ?zzkB ?zzkF ?zzkX ?zzkN ?zzkT ?zzkf ?zzkd ?zzku ?_; (case zzhP => assumption); (case zzPK => assumption); (case zzhw => assumption)); (k_extra "mine rc"); (case zzhm => k_extra "mine mem"); (case zzh0 => first | assumption | omega); (case zzh1 => first | assumption | omega); (case zzhb => assumption); (first | ((focus (refine saysRet_bool (fun i9 hv9 t'9 h'9 tk'9 F'9 N'9 => ?_) (fun hv9 e'9 g'9 h'9 tk'9 FG'9 U'9 R'9 => ?_); rotate_left))) | ((focus (refine saysRet_int ?zzhk ?zzhn (fun i9 hv9 hi9 t'9 h'9 tk'9 F'9 N'9 => ?_) (fun hv9 e'9 g'9 h'9 tk'9 FG'9 U'9 R'9 => ?_); (case zzhk => first | assumption | omega | decide); (case zzhn => first | assumption | omega); (all_goals ((try simp only [loK, hiK] at hi9))); rotate_left)))))))
  k_with "m call ref" => (k_here; (first | ((with_reducible show wpAny _ _ (call (Value.ref 291) [Value.ref _, Value.ref 187, Value.int _ _]) _ _ _); k_dflt (refine' (get_S ?zzh0 ?zzh1 ?zzhb ?zzm1 ?zzm2 ?zzm3).use ?zzkB ?zzkF ?zzkX ?zzkN ?zzkT ?zzkf ?zzkd ?zzku ?_); (k_extra "mine rc"); (case zzm1 => k_extra "mine mem"); (case zzm2 => k_extra "mine mem"); (case zzm3 => k_extra "mine mem"); (case zzh0 => first | assumption | omega); (case zzh1 => first | assumption | omega); (case zzhb => assumption); (focus (refine saysRet_reads (by decide) (fun i9 hv9 hr9 hi9 t'9 h'9 tk'9 F'9 N'9 => ?_) (fun hv9 hr9 e'9 g'9 h'9 tk'9 FG'9 U'9 R'9 => ?_) (fun hv9 hr9 e'9 g'9 h'9 tk'9 FG'9 U'9 R'9 => ?_); (all_goals ((try simp only [loK, hiK] at hi9); (try (exfalso; omega))))))) | ((with_reducible show wpAny _ _ (call (Value.ref 291) [Value.ref _, Value.ref 199, Value.int _ _]) _ _ _); k_dflt (refine' (get_U ?zzh0 ?zzh1 ?zzhb ?zzm1 ?zzm2 ?zzm3).use ?zzkB ?zzkF ?zzkX ?zzkN ?zzkT ?zzkf ?zzkd ?zzku ?_); (k_extra "mine rc"); (case zzm1 => k_extra "mine mem"); (case zzm2 => k_extra "mine mem"); (case zzm3 => k_extra "mine mem"); (case zzh0 => first | assumption | omega); (case zzh1 => first | assumption | omega); (case zzhb => assumption); (focus (refine saysRet_reads (by decide) (fun i9 hv9 hr9 hi9 t'9 h'9 tk'9 F'9 N'9 => ?_) (fun hv9 hr9 e'9 g'9 h'9 tk'9 FG'9 U'9 R'9 => ?_) (fun hv9 hr9 e'9 g'9 h'9 tk'9 FG'9 U'9 R'9 => ?_); (all_goals ((try simp only [loK, hiK] at hi9); (try (exfalso; omega))))))) | ((with_reducible show wpAny _ _ (call (Value.ref 291) [Value.ref _, Value.ref 211, Value.int _ _]) _ _ _); k_dflt (refine' (get_V ?zzh0 ?zzh1 ?zzhb ?zzm1 ?zzm2 ?zzm3).use ?zzkB ?zzkF ?zzkX ?zzkN ?zzkT ?zzkf ?zzkd ?zzku ?_); (k_extra "mine rc"); (case zzm1 => k_extra "mine mem"); (case zzm2 => k_extra "mine mem"); (case zzm3 => k_extra "mine mem"); (case zzh0 => first | assumption | omega); (case zzh1 => first | assumption | omega); (case zzhb => assumption); (focus (refine saysRet_reads (by decide) (fun i9 hv9 hr9 hi9 t'9 h'9 tk'9 F'9 N'9 => ?_) (fun hv9 hr9 e'9 g'9 h'9 tk'9 FG'9 U'9 R'9 => ?_) (fun hv9 hr9 e'9 g'9 h'9 tk'9 FG'9 U'9 R'9 => ?_); (all_goals ((try simp only [loK, hiK] at hi9); (try (exfalso; omega)))))))))
  k_with "mine end" => ((rename SaysRet _ _ _ _ _ _ _ _ _ _ => hR); (first | (exact hR.int (by k_extra "mine eq") _ _ _ (by assumption) (by first | assumption | exact cb_drop (by assumption) (by kcj_in))) | (exact hR.bytes (by k_extra "mine eq") _ _ _ (by assumption) (by first | assumption | exact cb_drop (by assumption) (by kcj_in))) | (exact hR.bool (by k_extra "mine eq") 0 _ _ (by assumption) (by first | assumption | exact cb_drop (by assumption) (by kcj_in))) | (exact hR.typ (by k_extra "mine eq") _ _ _ _ (by assumption) (by assumption) (by first | assumption | exact raisedSN_weak (by assumption) (by kcj_in))) | (exact hR.fin (by k_extra "mine eq") _ _ _ _ (by assumption) (by assumption) (by first | assumption | exact raisedSN_weak (by assumption) (by kcj_in)))))
  k_with "m call ref" => (k_here; (with_reducible show wpAny _ _ (call (Value.ref 249) [Value.ref _, Value.int _ _]) _ _ _); k_dflt (refine' (offset_ok ?zzh0 ?zzh1 ?zzh2 ?zzh3 ?zzhb ?zzm1 ?zzm2 ?zzm3).use ?zzkB ?zzkF ?zzkX ?zzkN ?zzkT ?zzkf ?zzkd ?zzku ?_); (k_extra "mine rc"); (case zzm1 => k_extra "mine mem"); (case zzm2 => k_extra "mine mem"); (case zzm3 => k_extra "mine mem"); (case zzh0 => first | assumption | omega); (case zzh1 => first | assumption | omega); (case zzh2 => first | assumption | omega); (case zzh3 => first | assumption | omega); (case zzhb => assumption); refine saysRet_row (fun i9 hv9 hi9 t'9 h'9 tk'9 F'9 N'9 => ?_) (fun hv9 e'9 g'9 h'9 tk'9 FG'9 U'9 R'9 => ?_) (fun hv9 e'9 g'9 h'9 tk'9 FG'9 U'9 R'9 => ?_))
  k_with "m call ref" => (k_here; (first | ((with_reducible show wpAny _ _ (call (Value.ref 220) [Value.int _ _, Value.ref 199]) _ _ _); k_dflt (refine' (enforce_U ?zzh0 ?zzh1).use ?zzkB ?zzkF ?zzkX ?zzkN ?zzkT ?zzkf ?zzkd ?zzku ?_); (k_extra "mine rc"); (case zzh0 => first | assumption | omega); (case zzh1 => first | assumption | omega); (focus (refine ⟨(fun hc9 t'9 h'9 tk'9 F'9 N'9 => ?_), (fun hc9 e'9 g'9 h'9 tk'9 FG'9 U'9 R'9 => ?_)⟩; (all_goals ((try (exfalso; omega)))); rotate_left))) | ((with_reducible show wpAny _ _ (call (Value.ref 220) [Value.int _ _, Value.ref 211]) _ _ _); k_dflt (refine' (enforce_V ?zzh0 ?zzh1).use ?zzkB ?zzkF ?zzkX ?zzkN ?zzkT ?zzkf ?zzkd ?zzku ?_); (k_extra "mine rc"); (case zzh0 => first | assumption | omega); (case zzh1 => first | assumption | omega); (focus (refine ⟨(fun hc9 t'9 h'9 tk'9 F'9 N'9 => ?_), (fun hc9 e'9 g'9 h'9 tk'9 FG'9 U'9 R'9 => ?_)⟩; (all_goals ((try (exfalso; omega)))); rotate_left))) | ((with_reducible show wpAny _ _ (call (Value.ref 220) [Value.int _ _, Value.ref _]) _ _ _); k_dflt (refine' (enforce_k ?zzhK ?zzhk ?zzh0 ?zzh1).use ?zzkB ?zzkF ?zzkX ?zzkN ?zzkT ?zzkf ?zzkd ?zzku ?_; (case zzhK => assumption); (case zzhk => first | assumption | omega)); (k_extra "mine rc"); (case zzh0 => first | assumption | omega); (case zzh1 => first | assumption | omega); (focus (refine ⟨(fun hc9 t'9 h'9 tk'9 F'9 N'9 => ?_), (fun hc9 e'9 g'9 h'9 tk'9 FG'9 U'9 R'9 => ?_)⟩; (all_goals ((try (exfalso; omega)))); rotate_left)))))
  k_with "m call ref" => (k_here; (first | ((with_reducible show wpAny _ _ (call (Value.ref 291) [Value.ref _, Value.ref 187, Value.int _ _]) _ _ _); fail) | ((with_reducible show wpAny _ _ (call (Value.ref 291) [Value.ref _, Value.ref 199, Value.int _ _]) _ _ _); fail) | ((with_reducible show wpAny _ _ (call (Value.ref 291) [Value.ref _, Value.ref 211, Value.int _ _]) _ _ _); fail) | ((with_reducible show wpAny _ _ (call (Value.ref 291) [Value.ref _, Value.ref _, Value.int _ _]) _ _ _); k_dflt (refine' (get_okN ?zzhK ?zzhk0 ?zzhw ?zzh0 ?zzh1 ?zzhb ?zzm1 ?zzm2 ?zzm3).use ?zzkB ?zzkF ?zzkX ?zzkN ?zzkT ?zzkf ?zzkd ?zzku ?_; (case zzhK => assumption); (case zzhk0 => assumption); (case zzhw => exact wdK_le _)); (k_extra "mine rc"); (case zzm1 => k_extra "mine mem"); (case zzm2 => k_extra "mine mem"); (case zzm3 => k_extra "mine mem"); (case zzh0 => first | assumption | omega); (case zzh1 => first | assumption | omega); (case zzhb => assumption); (focus (refine saysRet_reads (by assumption) (fun i9 hv9 hr9 hi9 t'9 h'9 tk'9 F'9 N'9 => ?_) (fun hv9 hr9 e'9 g'9 h'9 tk'9 FG'9 U'9 R'9 => ?_) (fun hv9 hr9 e'9 g'9 h'9 tk'9 FG'9 U'9 R'9 => ?_); (all_goals ((try (exfalso; omega))))))) | ((with_reducible show wpAny _ _ (call (Value.ref 291) [Value.ref _, Value.ref _, Value.int _ _]) _ _ _); k_dflt (refine' (get_ok0 ?zzhK ?zzh0 ?zzh1 ?zzhb ?zzm1 ?zzm2 ?zzm3).use ?zzkB ?zzkF ?zzkX ?zzkN ?zzkT ?zzkf ?zzkd ?zzku ?_; (case zzhK => assumption)); (k_extra "mine rc"); (case zzm1 => k_extra "mine mem"); (case zzm2 => k_extra "mine mem"); (case zzm3 => k_extra "mine mem"); (case zzh0 => first | assumption | omega); (case zzh1 => first | assumption | omega); (case zzhb => assumption); (focus (refine saysRet_reads0 (fun i9 hv9 hr9 t'9 h'9 tk'9 F'9 N'9 => ?_) (fun hv9 hr9 e'9 g'9 h'9 tk'9 FG'9 U'9 R'9 => ?_) (fun hv9 hr9 e'9 g'9 h'9 tk'9 FG'9 U'9 R'9 => ?_); (all_goals ((try (exfalso; omega)))))))))
  k_with "m call ref" => (k_here; (first | ((with_reducible show wpAny _ _ (call (Value.ref 220) [Value.bool _, Value.ref 61]) _ _ _); k_dflt (refine' (enforce_bb).use ?zzkB ?zzkF ?zzkX ?zzkN ?zzkT ?zzkf ?zzkd ?zzku ⟨?_, fun hc => (hc trivial).elim⟩); (k_extra "mine rc"); (intro hc t' h' tk' F' N')) | ((with_reducible show wpAny _ _ (call (Value.ref 220) [Value.int _ _, Value.ref 61]) _ _ _); k_dflt (refine' (enforce_bi ?zzhn).use ?zzkB ?zzkF ?zzkX ?zzkN ?zzkT ?zzkf ?zzkd ?zzku ⟨fun hc => hc.elim, ?_⟩; (case zzhn => assumption)); (k_extra "mine rc"); (intro hc e' g' h' tk' FG' U' R'))))
  k_with "mine mem" => (with_reducible first | assumption | exact List.mem_cons_self | (refine List.mem_cons_of_mem _ ?_; k_extra "mine mem"))
  k_with "k_mem" => (k_extra "mine mem")
  k_with "mine eq" => (assumption)
  k_with "m call ref" => (k_here; (with_reducible show wpAny _ _ (call (Value.ref 320) _) _ _ _); k_dflt (refine' (kinds_ok).use ?zzkB ?zzkF ?zzkX ?zzkN ?zzkT ?zzkf ?zzkd ?zzku ?_); (k_extra "mine rc"); intro l' D' h' tk' F' N' K')
  k_with "m subscriptTail" => (k_here; (with_reducible show wpAny _ _ (subscriptTail _ _ (Value.ref _) (Value.int _ _)) _ _ _); (with_unfolding_all (refine' kinds_item ?zzN ?zzm ?zzK ?zzh0 ?zzh1 ?zzhW ?_ ?zzhs); (case zzN => k_asm); (case zzm => k_extra "mine mem"); (case zzK => k_asm); (case zzh0 => first | assumption | omega); (case zzh1 => first | assumption | omega); (case zzhW => first | assumption | exact rfl); (case zzhs => with_unfolding_all rfl); k_whole); intro a' b' c' N')
  k_with "m UnrEnd" => (k_dflt (refine' unrEnd_tail ?zzF ?zzN ?zzoff ?_; (case zzF => k_asm); (case zzN => k_asm); (case zzoff => exact fun p hp => Nat.ne_of_lt (ktn_ltOf (by assumption) p hp)); k_whole))
  k_with "m call ref" => (k_here; (with_reducible show wpAny _ _ (call (Value.ref 339) _) _ _ _); k_dflt (refine' (number_ok ?zzh0 ?zzh1 ?zzhk0 ?zzhk1 ?zzhb ?zzhi ?zzm1).use ?zzkB ?zzkF ?zzkX ?zzkN ?zzkT ?zzkf ?zzkd ?zzku ?_); (k_extra "mine rc"); (case zzm1 => k_extra "mine mem"); (case zzhi => assumption); (case zzhb => assumption); (case zzh0 => first | assumption | omega); (case zzh1 => first | assumption | omega); (case zzhk0 => first | assumption | omega); (case zzhk1 => first | assumption | omega); (focus (refine rets_rd ?zzz (fun i9 hv9 hb9 t'9 h'9 tk'9 F'9 N'9 => ?_) (fun i9 hv9 t'9 h'9 tk'9 F'9 N'9 => ?_) (fun hv9 t'9 h'9 tk'9 F'9 N'9 => ?_); (case zzz => first | assumption | omega); (all_goals ((try simp only [Int.reduceToNat, loK, hiK] at hv9 hb9); (try simp only [Int.reduceToNat] at hv9); (try (exfalso; exact rd3_nobool hv9)))))))
  k_with "mine end" => ((rename Rets _ _ _ _ _ _ _ => hR); (first | (exact rets_int hR (by k_extra "mine eq") _ _ _ (by assumption) (by first | assumption | exact cb_drop (by assumption) (by kcj_in))) | (exact rets_typ hR (by k_extra "mine eq") _ _ _ (by assumption) (by first | assumption | exact cb_drop (by assumption) (by kcj_in))) | (exact rets_fin hR (by k_extra "mine eq") _ _ _ (by assumption) (by first | assumption | exact cb_drop (by assumption) (by kcj_in))) | (exact rets_bytes hR (by k_extra "mine eq") _ _ _ (by assumption) (by first | assumption | exact cb_drop (by assumption) (by kcj_in))) | (exact rets_bool hR (by k_extra "mine eq") 0 _ _ (by assumption) (by first | assumption | exact cb_drop (by assumption) (by kcj_in)))))
  k_with "m call ref" => (k_here; (with_reducible show wpAny _ _ (call (Value.ref 346) _) _ _ _); k_dflt (refine' (held_ok ?zzh0 ?zzh1 ?zzhk0 ?zzhk1 ?zzhb ?zzhi ?zzm1).use ?zzkB ?zzkF ?zzkX ?zzkN ?zzkT ?zzkf ?zzkd ?zzku ?_); (k_extra "mine rc"); (case zzm1 => k_extra "mine mem"); (case zzhi => assumption); (case zzhb => assumption); (case zzh0 => first | assumption | omega); (case zzh1 => first | assumption | omega); (case zzhk0 => first | assumption | omega); (case zzhk1 => first | assumption | omega); (first | ((focus (refine rets_reads ?zzz (fun i9 hv9 hr9 hb9 t'9 h'9 tk'9 F'9 N'9 => ?_) (fun hv9 hr9 t'9 h'9 tk'9 F'9 N'9 => ?_) (fun hv9 hr9 t'9 h'9 tk'9 F'9 N'9 => ?_); (case zzz => decide); (all_goals ((try simp only [Int.reduceToNat, loK, hiK] at hv9 hb9); (try (exfalso; omega)); (try simp only [Int.reduceToNat] at hv9)))))) | (refine rets_reads4 (fun i9 hv9 t'9 h'9 tk'9 F'9 N'9 => ?_) (fun i9 hv9 t'9 h'9 tk'9 F'9 N'9 => ?_) (fun hv9 t'9 h'9 tk'9 F'9 N'9 => ?_) (fun hv9 t'9 h'9 tk'9 F'9 N'9 => ?_)) | ((focus (refine rets_reads ?zzz (fun i9 hv9 hr9 hb9 t'9 h'9 tk'9 F'9 N'9 => ?_) (fun hv9 hr9 t'9 h'9 tk'9 F'9 N'9 => ?_) (fun hv9 hr9 t'9 h'9 tk'9 F'9 N'9 => ?_); (case zzz => first | decide | assumption | omega); (all_goals ((try simp only [Int.reduceToNat, loK, hiK] at hv9 hb9); (try (exfalso; omega)); (try simp only [Int.reduceToNat] at hv9))))))))
  k_with "mine held" => ((focus (refine rets_reads ?zzz (fun i9 hv9 hr9 hb9 t'9 h'9 tk'9 F'9 N'9 => ?_) (fun hv9 hr9 t'9 h'9 tk'9 F'9 N'9 => ?_) (fun hv9 hr9 t'9 h'9 tk'9 F'9 N'9 => ?_); (case zzz => first | decide | assumption | omega); (all_goals ((try simp only [Int.reduceToNat, loK, hiK] at hv9 hb9); (try (exfalso; omega)); (try simp only [Int.reduceToNat] at hv9))))))
  k_with "mine num" => ((focus (refine rets_rd ?zzz (fun i9 hv9 hb9 t'9 h'9 tk'9 F'9 N'9 => ?_) (fun i9 hv9 t'9 h'9 tk'9 F'9 N'9 => ?_) (fun hv9 t'9 h'9 tk'9 F'9 N'9 => ?_); (case zzz => first | assumption | omega); (all_goals ((try simp only [Int.reduceToNat, loK, hiK] at hv9 hb9); (try simp only [Int.reduceToNat] at hv9); (try (exfalso; exact rd3_nobool hv9)))))))
  k_with "m call ref" => (k_here; (first | ((with_reducible show wpAny _ _ (call (Value.ref 353) _) _ _ _); k_dflt (refine' (lrow_ok ?zzh0 ?zzh1 ?zzh2 ?zzh3 ?zzhb ?zzhi ?zzm1).use ?zzkB ?zzkF ?zzkX ?zzkN ?zzkT ?zzkf ?zzkd ?zzku ?_); (k_extra "mine rc"); (case zzm1 => k_extra "mine mem"); (case zzhi => assumption); (case zzhb => assumption); (case zzh0 => first | assumption | omega); (case zzh1 => first | assumption | omega); (case zzh2 => first | assumption | omega); (case zzh3 => first | assumption | omega); refine rets_row (fun i9 hv9 hb9 t'9 h'9 tk'9 F'9 N'9 => ?_) (fun hv9 t'9 h'9 tk'9 F'9 N'9 => ?_) (fun hv9 t'9 h'9 tk'9 F'9 N'9 => ?_)) | ((with_reducible show wpAny _ _ (call (Value.ref 360) _) _ _ _); k_dflt (refine' (lfar_ok ?zzh0 ?zzh1 ?zzhb ?zzhi ?zzm1).use ?zzkB ?zzkF ?zzkX ?zzkN ?zzkT ?zzkf ?zzkd ?zzku ?_); (k_extra "mine rc"); (case zzm1 => k_extra "mine mem"); (case zzhi => assumption); (case zzhb => assumption); (case zzh0 => first | assumption | omega); (case zzh1 => first | assumption | omega); (focus (refine rets_far (fun i9 hv9 hr9 hb9 t'9 h'9 tk'9 F'9 N'9 => ?_) (fun hv9 hr9 t'9 h'9 tk'9 F'9 N'9 => ?_) (fun hv9 hr9 t'9 h'9 tk'9 F'9 N'9 => ?_); (all_goals ((try (exfalso; omega)))))))))
  k_with "mine lrow" => (refine rets_row (fun i9 hv9 hb9 t'9 h'9 tk'9 F'9 N'9 => ?_) (fun hv9 t'9 h'9 tk'9 F'9 N'9 => ?_) (fun hv9 t'9 h'9 tk'9 F'9 N'9 => ?_))
  k_with "mine lfar" => ((focus (refine rets_far (fun i9 hv9 hr9 hb9 t'9 h'9 tk'9 F'9 N'9 => ?_) (fun hv9 hr9 t'9 h'9 tk'9 F'9 N'9 => ?_) (fun hv9 hr9 t'9 h'9 tk'9 F'9 N'9 => ?_); (all_goals ((try (exfalso; omega)))))))
  k_with "mine held" => (refine rets_reads4 (fun i9 hv9 t'9 h'9 tk'9 F'9 N'9 => ?_) (fun i9 hv9 t'9 h'9 tk'9 F'9 N'9 => ?_) (fun hv9 t'9 h'9 tk'9 F'9 N'9 => ?_) (fun hv9 t'9 h'9 tk'9 F'9 N'9 => ?_))
  k_with "mine held" => ((focus (refine rets_reads ?zzz (fun i9 hv9 hr9 hb9 t'9 h'9 tk'9 F'9 N'9 => ?_) (fun hv9 hr9 t'9 h'9 tk'9 F'9 N'9 => ?_) (fun hv9 hr9 t'9 h'9 tk'9 F'9 N'9 => ?_); (case zzz => decide); (all_goals ((try simp only [Int.reduceToNat, loK, hiK] at hv9 hb9); (try (exfalso; omega)); (try simp only [Int.reduceToNat] at hv9))))))
  k_with "m eval Call" => (refine Call_ ?_)
  k_with "m eval Name" => (k_here; (k_dflt first | (name_kind "cell"; refine' nameX_C (by k_asm) (by exact rfl) ?zzm ?zzd ?_ (by kernel_rfl) (by exact rfl) (by kernel_rfl); (case zzm => k_mem); (case zzd => k_asm); k_whole) | (k_extra "mine name")))
  k_with "mine room" => (first | (with_reducible exact room_le (by assumption) (by decide)) | ((try simp only [depth_under_make, depth_under_kw, depth_in1, depth_deeper, depth_caller, units_under_make, units_in1, units_deeper, Around.mark_units, units_caller]); (try dsimp only [ktrTop]); (first | (with_reducible exact room_le (by assumption) (by decide)) | (with_reducible exact room_le2 (by assumption) (by decide)) | (with_reducible exact room_le3 (by assumption) (by decide)) | (with_reducible exact room_le4 (by assumption) (by decide)))))
  k_with "k_room" => (k_extra "mine room")
  k_with "k_units" => (k_extra "mine room")
  trivial
section
theorem pieceT {w : World} {mean : ExcName → Option Value} {mg mb : Str → Option Value} {p : Program} {loose : List Str} {c1 c2 c3 c4 c5 c6 c7 c8 : Addr} {o1 o2 o3 o4 o5 o6 o7 o8 : Obj} {D lo : Addr} {b : Array UInt8} {ws : List Value} {co : Nat} {pos : Int} {tp : Tok} {m : Str → Option Value}
   (dp un : Nat) (gd : Option (List Code)) (a : Addr) (A₀ : Around) (base h₀ : Heap) (L : Addr) (s : Shared) (Q : Flow → Shared → Prop) (E : Value → Shared → Prop) (B : Below A₀ base [] h₀) (X : (hd.heap_1 w.params).In h₀) (T : Top p loose mean mg mb h₀) (XB : (hd.heap_1 w.params).In base) (TB : Top p loose mean mg mb base) (hd : dp + 50 < recursionLimit) (hu : un + 900 < cLine) (l0 : 404 < c1) (l1 : c1 < c2) (l2 : c2 < c3) (l3 : c3 < c4) (l4 : c4 < c5) (l5 : c5 < c6) (l6 : c6 < c7) (l7 : c7 < c8) (n1 : @LT.lt Nat _ c8 D) (n2 : @Ne Nat lo c6) (h0 : 0 ≤ pos) (h1 : pos < 48)
   (d1 : o1.data = .cell (some (.ref D))) (d5 : o5.data = .cell (some (.int pos tp))) (d6 : o6.data = .cell none)
   (F : Fr h₀ L s.heap m)
   (N : News h₀ L s.heap [(D, baObj b), (lo, listOf ws.toArray co), (c8, o8), (c7, o7), (c6, o6), (c5, o5), (c4, o4), (c3, o3), (c2, o2), (c1, o1), (404, tabObj #[])])
   (hret : ∀ (h' : Heap) (tk' : Nat) (x dx : Addr) (q6 : Obj), Fr h₀ L h' m →
     News h₀ L h' [(x, tabObj' dx D pos tp), (dx, dictOf [] 0), (D, baObj b), (lo, listOf ws.toArray co), (c8, o8), (c7, o7), (c6, q6), (c5, o5), (c4, o4), (c3, o3), (c2, o2), (c1, o1), (404, tabObj #[])] →
     q6.data = .cell (some (.ref x)) → @LT.lt Nat _ c8 dx → @LT.lt Nat _ c8 x → Q .next { s with heap := h', toks := tk' }) :
   wpAny (model PySem.Challenge.rw_ke0006_01.row.prog w) (ktrTop dp un gd (Str.ofString "law") lawScope L a (.ref 408) [(Str.ofString "without", c8), (Str.ofString "v", c7), (Str.ofString "table", c6), (Str.ofString "pos", c5), (Str.ofString "off", c4), (Str.ofString "kind", c3), (Str.ofString "flags", c2), (Str.ofString "data", c1)] []) (execs lawD2 (envX (Str.ofString "law") lawScope L a (.ref 408) [(Str.ofString "without", c8), (Str.ofString "v", c7), (Str.ofString "table", c6), (Str.ofString "pos", c5), (Str.ofString "off", c4), (Str.ofString "kind", c3), (Str.ofString "flags", c2), (Str.ofString "data", c1)])) Q E s := by
  revert X; k_fill; intro X
  replace l0 := ltN l0; replace l1 := ltN l1; replace l2 := ltN l2; replace l3 := ltN l3; replace l4 := ltN l4; replace l5 := ltN l5; replace l6 := ltN l6; replace l7 := ltN l7
  show wpAny _ _ (execs [_] _) _ _ _
  k_steps
  all_goals (first | (refine hret _ _ _ _ _ (by assumption) (by assumption) (by assumption) ?_ ?_ <;> omega))
end
section
/-- the class of a kind -/
def clsK : Nat → Addr | 0 => 61 | 1 => 75 | 2 => 89 | 3 => 103 | 4 => 117 | 5 => 131 | 6 => 145 | 7 => 159 | _ => 173
theorem kind_cls (w : World) {k : Nat} (h : k < 9) : KindAt w (clsK k) k := by
  have hk9 := lt9 k h
  rcases hk9 with rfl | rfl | rfl | rfl | rfl | rfl | rfl | rfl | rfl
  · exact kind_61 w
  · exact kind_75 w
  · exact kind_89 w
  · exact kind_103 w
  · exact kind_117 w
  · exact kind_131 w
  · exact kind_145 w
  · exact kind_159 w
  · exact kind_173 w
def defK (k : Nat) (off : Int) : Int := [0, 1, kl k, kh k].getD (off.fmod 4).toNat 0
theorem defK_in {k : Nat} {off : Int} (h : k < 9) (h1 : k ≠ 0) : loK k ≤ defK k off ∧ defK k off ≤ hiK k := by
  have a := Int.fmod_nonneg_of_pos off (b := 4) (by decide)
  have b := Int.fmod_lt_of_pos off (b := 4) (by decide)
  exact (by decide : ∀ k : Nat, k < 9 → k ≠ 0 → ∀ j : Nat, j < 4 → loK k ≤ [0, 1, kl k, kh k].getD j 0 ∧ [0, 1, kl k, kh k].getD j 0 ≤ hiK k) k h h1 _ (by omega)
abbrev flagsList (c : Nat) : Obj := listOf [.ref 61, .ref 75, .ref 89, .ref 103, .ref 117, .ref 131, .ref 145, .ref 159, .ref 173].toArray c
section
variable {prog : Program} {w : World} {A : Around} {E : Value → Shared → Prop} {s : Shared} {value slice : PySem.Expr} {h₀ : Heap} {L l : Addr} {news : List (Addr × Obj)} {k : Int} {u : Tok} {c : Nat} {Q : Value → Shared → Prop}
theorem flags_item (N : News h₀ L s.heap news) (hm : (l, flagsList c) ∈ news) (h0 : 0 ≤ k) (h1 : k < 9) (h : Q (.ref (clsK k.toNat)) s)
    (hs : subscripted slice false (.ref l) (.int k u) = operate [.ref l, .int k u] (getItem (.ref l) (.int k u)) := by with_unfolding_all rfl) :
    wpAny (model prog w) A (subscriptTail value slice (.ref l) (.int k u)) Q E s := by
  have hl : s.heap.IsList l [.ref 61, .ref 75, .ref 89, .ref 103, .ref 117, .ref 131, .ref 145, .ref 159, .ref 173].toArray := ⟨_, N.get hm, rfl, _, rfl⟩
  obtain ⟨n, rfl⟩ : ∃ n : Nat, k = n := ⟨k.toNat, by omega⟩
  have hk9 := lt9 n (by omega)
  refine item_litK hl h0 (by omega) ?_ h hs
  rcases hk9 with rfl | rfl | rfl | rfl | rfl | rfl | rfl | rfl | rfl <;> rfl
end
theorem kw41 : True := by
  w_top off
  k_with "m subscriptTail" => (k_here; (with_reducible show wpAny _ _ (subscriptTail _ _ (Value.ref _) (Value.int _ _)) _ _ _); (with_unfolding_all (refine' flags_item ?zzN ?zzm ?zzh0 ?zzh1 ?_ ?zzhs); (case zzN => k_asm); (case zzm => k_extra "mine mem"); (case zzh0 => first | assumption | omega); (case zzh1 => first | assumption | omega); (case zzhs => with_unfolding_all rfl); k_whole))
  trivial
theorem pieceE1 {w : World} {mean : ExcName → Option Value} {mg mb : Str → Option Value} {p : Program} {loose : List Str} {c1 c2 c3 c4 c5 c6 c7 c8 : Addr} {o1 o2 o3 o4 o5 o6 o7 o8 : Obj} {kind : Int} {tki : Tok} {m : Str → Option Value} {y1 y2 y3 y4 : Addr} {p1 p2 p3 p4 : Obj} {led : List (Addr × Obj)}
   (dp un : Nat) (gd : Option (List Code)) (a : Addr) (A₀ : Around) (base h₀ : Heap) (L : Addr) (s : Shared) (Q : Flow → Shared → Prop) (E : Value → Shared → Prop) (B : Below A₀ base [] h₀) (X : (hd.heap_1 w.params).In h₀) (T : Top p loose mean mg mb h₀) (XB : (hd.heap_1 w.params).In base) (TB : Top p loose mean mg mb base) (hd : dp + 50 < recursionLimit) (hu : un + 900 < cLine) (l0 : 404 < c1) (l1 : c1 < c2) (l2 : c2 < c3) (l3 : c3 < c4) (l4 : c4 < c5) (l5 : c5 < c6) (l6 : c6 < c7) (l7 : c7 < c8) (e1 : @Ne Nat y1 c2) (e2 : @Ne Nat y2 c2) (e3 : @Ne Nat y3 c2) (e4 : @Ne Nat y4 c2) (h0 : 0 ≤ kind) (h1 : kind < 9)
   (d3 : o3.data = .cell (some (.int kind tki))) (d2 : o2.data = .cell none)
   (F : Fr h₀ L s.heap m)
   (N : News h₀ L s.heap [(y1, p1), (y2, p2), (y3, p3), (y4, p4), (c8, o8), (c7, o7), (c6, o6), (c5, o5), (c4, o4), (c3, o3), (c2, o2), (c1, o1), (404, tabObj #[])])
   (hret : ∀ (h' : Heap) (tk' : Nat) (q2 : Obj), Fr h₀ L h' m →
     News h₀ L h' [(y1, p1), (y2, p2), (y3, p3), (y4, p4), (c8, o8), (c7, o7), (c6, o6), (c5, o5), (c4, o4), (c3, o3), (c2, q2), (c1, o1), (404, tabObj #[])] →
     q2.data = .cell (some (.ref (clsK kind.toNat))) → Q .next { s with heap := h', toks := tk' }) :
   wpAny (model PySem.Challenge.rw_ke0006_01.row.prog w) (ktrTop dp un gd (Str.ofString "law") lawScope L a (.ref 408) [(Str.ofString "without", c8), (Str.ofString "v", c7), (Str.ofString "table", c6), (Str.ofString "pos", c5), (Str.ofString "off", c4), (Str.ofString "kind", c3), (Str.ofString "flags", c2), (Str.ofString "data", c1)] []) (execs lawE1 (envX (Str.ofString "law") lawScope L a (.ref 408) [(Str.ofString "without", c8), (Str.ofString "v", c7), (Str.ofString "table", c6), (Str.ofString "pos", c5), (Str.ofString "off", c4), (Str.ofString "kind", c3), (Str.ofString "flags", c2), (Str.ofString "data", c1)])) Q E s := by
  revert X; k_fill; intro X
  replace l0 := ltN l0; replace l1 := ltN l1; replace l2 := ltN l2; replace l3 := ltN l3; replace l4 := ltN l4; replace l5 := ltN l5; replace l6 := ltN l6; replace l7 := ltN l7
  show wpAny _ _ (execs [_] _) _ _ _
  k_steps
  all_goals (first | exact hret _ _ _ (by assumption) (cb_drop (by assumption) (by kcj_in)) (by assumption))
end
theorem kw42 : True := by
  w_top off
  k_with_none
  k_with "k_ne" => ((try dsimp only); with_reducible first | exact Nat.ne_of_lt (by k_extra "mine lt") | exact Nat.ne_of_gt (by k_extra "mine lt") | fail)
  k_with "mine lt" => (first | assumption | (refine Nat.lt_trans (by assumption) ?_; k_extra "mine lt"))
  k_with "mine rc" => ((case zzkB => k_asm); (case zzkF => k_asm); (case zzkX => k_asm); (case zzkN => k_asm); (case zzkT => k_asm); (case zzkf => first | k_dflt exact rfl | assumption); (case zzkd => k_extra "mine room"); (case zzku => k_extra "mine room"))
  k_with "mine ra" => ((case zzkB => k_asm); (case zzkF => k_asm); (case zzkX => k_asm); (case zzkN => k_asm); (case zzkT => k_asm); (case zzkf => first | exact rfl | assumption); (case zzkd => ktr_room); (case zzku => ktr_units))
  k_with "mine name" => (first | (name_kind "local"; refine' nameX_L (by k_asm) (by exact rfl) ?_ (by kernel_rfl) (by kernel_rfl) (by kernel_rfl); k_whole) | (name_kind "globalImplicit"; refine' nameX_K (by k_asm) (by k_asm) (by k_asm) (by k_is) ?_ (by kernel_rfl) (by kernel_rfl) (by kernel_rfl); k_whole) | (name_kind "globalImplicit"; refine' nameX_B (by k_asm) (by k_asm) (by k_asm) (by k_is) (by boot_fast) (by decide) ?_ (by kernel_rfl) (by kernel_rfl) (by kernel_rfl); k_whole))
  k_with "m eval Name" => (k_here; k_dflt k_extra "mine name")
  k_with "k_room" => (ktr_room)
  k_with "k_units" => (ktr_units)
  k_with "m getMethod ref" => (k_here; (with_reducible show wpAny _ _ (getMethod (Value.ref _) (PySem.Str.ofString "unpack_from") _) _ _ _); (refine' method_unpack ?zzhP ?_; (case zzhP => exact (Frag.In.keeps (by k_asm) (Fr.keep (by k_asm))) _ _ (by assumption)); k_whole))
  k_with "m call builtin:_struct.Struct.unpack_from" => (k_here; ((focus (refine' unpack_call ?zzhh ?zzF ?zzN ?zzhP ?zzhd ?zzPK ?zzh0 ?zzh1 ?zzhb ?zzhw (fun hin9 T'9 t'9 h'9 tk'9 F'9 N'9 l19 => ?_) (fun hin9 h'9 tk'9 e'9 x'9 => ?_); (case zzhh => rfl); (case zzF => k_asm); (case zzN => k_asm); (case zzhP => exact (Frag.In.keeps (by k_asm) (Fr.keep (by k_asm))) _ _ (by assumption)); (case zzhd => exact News.get (by k_asm) (by k_mem)); (case zzPK => assumption); (case zzh0 => assumption); (case zzh1 => omega); (case zzhb => assumption); (case zzhw => assumption); (all_goals ((try k_lt l19))); rotate_left))))
  k_with "m leaving ref" => (k_here; (first | (refine' leave_onX rfl ?zzk1 ?zzk2 ?zzk3 ?zzk4 ?_; (case zzk3 => assumption); (case zzk1 => assumption); (case zzk4 => assumption); (case zzk2 => assumption); k_whole; intro h' R' U'; (try dsimp only at R' U' ⊢)) | (refine' leave_newN ?zzk1 ?zzk0 ?zzk2 ?zzk3 ?_; (case zzk0 => assumption); (case zzk1 => assumption); (case zzk2 => assumption); (case zzk3 => k_asm); k_whole; intro h' R' U'; (try dsimp only at R' U' ⊢)) | (refine' leave_raiseN ?zzk1 ?zzk0 ?zzk2 ?zzk3 ?_; (case zzk0 => first | assumption | (exact Heap.MadeExc.of (by assumption))); (case zzk1 => assumption); (case zzk2 => assumption); (case zzk3 => k_asm); k_whole; intro h' R' U'; (try dsimp only at R' U' ⊢))))
  k_with "m getAttr ref" => (k_here; (first | (refine' cls_val ?zzk1 ?zzk2 ?zzk3 ?zzk4 ?zzk5 ?zzk6 ?_; (case zzk1 => k_asm); (case zzk2 => k_asm); (case zzk3 => exact Flag.ty (by assumption)); (case zzk4 => exact Flag.rd (by assumption)); (case zzk5 => first | (exact Flag.mn (by assumption)) | (exact Flag.mx (by assumption)) | (exact Flag.pkt (by assumption)) | assumption); (case zzk6 => rfl); k_whole) | (refine' cls_pyt ?zzX ?zzr ?zza ?zzb ?zzT ?_; (case zza => exact Flag.pyt (by assumption)); (case zzX => exact (Frag.In.keeps (by k_asm) (Fr.keep (by k_asm)))); (case zzr => exact Flag.rd (by assumption)); (case zzb => exact Flag.pym (by assumption)); (case zzT => first | exact FF.mt_int | exact FF.mt_bool | assumption); k_whole)))
  k_with "m compareOp LtE bool int" => (refine le_bool_int ?_)
  k_with "m compareOp LtE int bool" => (refine le_int_bool ?_)
  k_with "m call ref" => (k_here; (first | ((with_reducible show wpAny _ _ (call (Value.ref 220) [Value.int _ _, Value.ref 199]) _ _ _); (focus (k_dflt (refine' (enforce_U ?zzh0 ?zzh1).use ?zzkB ?zzkF ?zzkX ?zzkN ?zzkT ?zzkf ?zzkd ?zzku ⟨(fun hc9 t'9 h'9 tk'9 F'9 N'9 => ?_), (fun hc9 e'9 g'9 h'9 tk'9 FG'9 U'9 R'9 => ?_)⟩); (k_extra "mine ra"); (case zzh0 => first | assumption | omega); (case zzh1 => first | assumption | omega); (all_goals ((try (exfalso; omega)))); rotate_left))) | ((with_reducible show wpAny _ _ (call (Value.ref 220) [Value.int _ _, Value.ref 211]) _ _ _); (focus (k_dflt (refine' (enforce_V ?zzh0 ?zzh1).use ?zzkB ?zzkF ?zzkX ?zzkN ?zzkT ?zzkf ?zzkd ?zzku ⟨(fun hc9 t'9 h'9 tk'9 F'9 N'9 => ?_), (fun hc9 e'9 g'9 h'9 tk'9 FG'9 U'9 R'9 => ?_)⟩); (k_extra "mine ra"); (case zzh0 => first | assumption | omega); (case zzh1 => first | assumption | omega); (all_goals ((try (exfalso; omega)))); rotate_left))) | ((with_reducible show wpAny _ _ (call (Value.ref 220) [Value.int _ _, Value.ref _]) _ _ _); (focus (k_dflt (refine' (enforce_k ?zzhK ?zzhk ?zzh0 ?zzh1).use ?zzkB ?zzkF ?zzkX ?zzkN ?zzkT ?zzkf ?zzkd ?zzku ⟨(fun hc9 t'9 h'9 tk'9 F'9 N'9 => ?_), (fun hc9 e'9 g'9 h'9 tk'9 FG'9 U'9 R'9 => ?_)⟩; (case zzhK => assumption); (case zzhk => assumption)); (k_extra "mine ra"); (case zzh0 => first | assumption | omega); (case zzh1 => first | assumption | omega); (all_goals ((try (exfalso; omega)))); rotate_left)))))
  k_with "m getMethod ref" => (k_here; (with_reducible show wpAny _ _ (getMethod (Value.ref _) (PySem.Str.ofString "py_type") _) _ _ _); (refine' method_of_cls ?zzF ?zzX ?zzg ?_; (case zzF => k_asm); (case zzX => k_asm); (case zzg => exact Flag.sp (by assumption)); k_whole))
  k_with "m call ref" => (k_here; (first | ((with_reducible show wpAny _ _ (call (Value.ref 227) [Value.ref 46, Value.ref _, Value.int _ _]) _ _ _); k_dflt (refine' (get_encode_U ?zzh0 ?zzh1 ?zzhb ?zzhm).use ?zzkB ?zzkF ?zzkX ?zzkN ?zzkT ?zzkf ?zzkd ?zzku ?_); (k_extra "mine rc"); (case zzhm => k_extra "mine mem"); (case zzh0 => first | assumption | omega); (case zzh1 => first | assumption | omega); (case zzhb => assumption); (first | ((focus (refine saysRet_bool (fun i9 hv9 t'9 h'9 tk'9 F'9 N'9 => ?_) (fun hv9 e'9 g'9 h'9 tk'9 FG'9 U'9 R'9 => ?_); rotate_left))) | ((focus (refine saysRet_int ?zzhk ?zzhn (fun i9 hv9 hi9 t'9 h'9 tk'9 F'9 N'9 => ?_) (fun hv9 e'9 g'9 h'9 tk'9 FG'9 U'9 R'9 => ?_); (case zzhk => first | assumption | omega | decide); (case zzhn => first | assumption | omega); (all_goals ((try simp only [loK, hiK] at hi9))); rotate_left))))) | ((with_reducible show wpAny _ _ (call (Value.ref 227) [Value.ref _, Value.ref _, Value.int _ _]) _ _ _); k_dflt (refine' (get_encode ?zzhP ?zzPK ?zzh0 ?zzh1 ?zzhb ?zzhw ?zzhm).use ?zzkB ?zzkF ?zzkX ?zzkN ?zzkT ?zzkf ?zzkd ?zzku ?_; (case zzhP => assumption); (case zzPK => assumption); (case zzhw => assumption)); (k_extra "mine rc"); (case zzhm => k_extra "mine mem"); (case zzh0 => first | assumption | omega); (case zzh1 => first | assumption | omega); (case zzhb => assumption); (first | ((focus (refine saysRet_bool (fun i9 hv9 t'9 h'9 tk'9 F'9 N'9 => ?_) (fun hv9 e'9 g'9 h'9 tk'9 FG'9 U'9 R'9 => ?_); rotate_left))) | ((focus (refine saysRet_int ?zzhk ?zzhn (fun i9 hv9 hi9 t'9 h'9 tk'9 F'9 N'9 => ?_) (fun hv9 e'9 g'9 h'9 tk'9 FG'9 U'9 R'9 => ?_); (case zzhk => first | assumption | omega | decide); (case zzhn => first | assumption | omega); (all_goals ((try simp only [loK, hiK] at hi9))); rotate_left)))))))
  k_with "m call ref" => (k_here; (first | ((with_reducible show wpAny _ _ (call (Value.ref 291) [Value.ref _, Value.ref 187, Value.int _ _]) _ _ _); k_dflt (refine' (get_S ?zzh0 ?zzh1 ?zzhb ?zzm1 ?zzm2 ?zzm3).use ?zzkB ?zzkF ?zzkX ?zzkN ?zzkT ?zzkf ?zzkd ?zzku ?_); (k_extra "mine rc"); (case zzm1 => k_extra "mine mem"); (case zzm2 => k_extra "mine mem"); (case zzm3 => k_extra "mine mem"); (case zzh0 => first | assumption | omega); (case zzh1 => first | assumption | omega); (case zzhb => assumption); (focus (refine saysRet_reads (by decide) (fun i9 hv9 hr9 hi9 t'9 h'9 tk'9 F'9 N'9 => ?_) (fun hv9 hr9 e'9 g'9 h'9 tk'9 FG'9 U'9 R'9 => ?_) (fun hv9 hr9 e'9 g'9 h'9 tk'9 FG'9 U'9 R'9 => ?_); (all_goals ((try simp only [loK, hiK] at hi9); (try (exfalso; omega))))))) | ((with_reducible show wpAny _ _ (call (Value.ref 291) [Value.ref _, Value.ref 199, Value.int _ _]) _ _ _); k_dflt (refine' (get_U ?zzh0 ?zzh1 ?zzhb ?zzm1 ?zzm2 ?zzm3).use ?zzkB ?zzkF ?zzkX ?zzkN ?zzkT ?zzkf ?zzkd ?zzku ?_); (k_extra "mine rc"); (case zzm1 => k_extra "mine mem"); (case zzm2 => k_extra "mine mem"); (case zzm3 => k_extra "mine mem"); (case zzh0 => first | assumption | omega); (case zzh1 => first | assumption | omega); (case zzhb => assumption); (focus (refine saysRet_reads (by decide) (fun i9 hv9 hr9 hi9 t'9 h'9 tk'9 F'9 N'9 => ?_) (fun hv9 hr9 e'9 g'9 h'9 tk'9 FG'9 U'9 R'9 => ?_) (fun hv9 hr9 e'9 g'9 h'9 tk'9 FG'9 U'9 R'9 => ?_); (all_goals ((try simp only [loK, hiK] at hi9); (try (exfalso; omega))))))) | ((with_reducible show wpAny _ _ (call (Value.ref 291) [Value.ref _, Value.ref 211, Value.int _ _]) _ _ _); k_dflt (refine' (get_V ?zzh0 ?zzh1 ?zzhb ?zzm1 ?zzm2 ?zzm3).use ?zzkB ?zzkF ?zzkX ?zzkN ?zzkT ?zzkf ?zzkd ?zzku ?_); (k_extra "mine rc"); (case zzm1 => k_extra "mine mem"); (case zzm2 => k_extra "mine mem"); (case zzm3 => k_extra "mine mem"); (case zzh0 => first | assumption | omega); (case zzh1 => first | assumption | omega); (case zzhb => assumption); (focus (refine saysRet_reads (by decide) (fun i9 hv9 hr9 hi9 t'9 h'9 tk'9 F'9 N'9 => ?_) (fun hv9 hr9 e'9 g'9 h'9 tk'9 FG'9 U'9 R'9 => ?_) (fun hv9 hr9 e'9 g'9 h'9 tk'9 FG'9 U'9 R'9 => ?_); (all_goals ((try simp only [loK, hiK] at hi9); (try (exfalso; omega)))))))))
  k_with "mine end" => ((rename SaysRet _ _ _ _ _ _ _ _ _ _ => hR); (first | (exact hR.int (by k_extra "mine eq") _ _ _ (by assumption) (by first | assumption | exact cb_drop (by assumption) (by kcj_in))) | (exact hR.bytes (by k_extra "mine eq") _ _ _ (by assumption) (by first | assumption | exact cb_drop (by assumption) (by kcj_in))) | (exact hR.bool (by k_extra "mine eq") 0 _ _ (by assumption) (by first | assumption | exact cb_drop (by assumption) (by kcj_in))) | (exact hR.typ (by k_extra "mine eq") _ _ _ _ (by assumption) (by assumption) (by first | assumption | exact raisedSN_weak (by assumption) (by kcj_in))) | (exact hR.fin (by k_extra "mine eq") _ _ _ _ (by assumption) (by assumption) (by first | assumption | exact raisedSN_weak (by assumption) (by kcj_in)))))
  k_with "m call ref" => (k_here; (with_reducible show wpAny _ _ (call (Value.ref 249) [Value.ref _, Value.int _ _]) _ _ _); k_dflt (refine' (offset_ok ?zzh0 ?zzh1 ?zzh2 ?zzh3 ?zzhb ?zzm1 ?zzm2 ?zzm3).use ?zzkB ?zzkF ?zzkX ?zzkN ?zzkT ?zzkf ?zzkd ?zzku ?_); (k_extra "mine rc"); (case zzm1 => k_extra "mine mem"); (case zzm2 => k_extra "mine mem"); (case zzm3 => k_extra "mine mem"); (case zzh0 => first | assumption | omega); (case zzh1 => first | assumption | omega); (case zzh2 => first | assumption | omega); (case zzh3 => first | assumption | omega); (case zzhb => assumption); refine saysRet_row (fun i9 hv9 hi9 t'9 h'9 tk'9 F'9 N'9 => ?_) (fun hv9 e'9 g'9 h'9 tk'9 FG'9 U'9 R'9 => ?_) (fun hv9 e'9 g'9 h'9 tk'9 FG'9 U'9 R'9 => ?_))
  k_with "m call ref" => (k_here; (first | ((with_reducible show wpAny _ _ (call (Value.ref 220) [Value.int _ _, Value.ref 199]) _ _ _); k_dflt (refine' (enforce_U ?zzh0 ?zzh1).use ?zzkB ?zzkF ?zzkX ?zzkN ?zzkT ?zzkf ?zzkd ?zzku ?_); (k_extra "mine rc"); (case zzh0 => first | assumption | omega); (case zzh1 => first | assumption | omega); (focus (refine ⟨(fun hc9 t'9 h'9 tk'9 F'9 N'9 => ?_), (fun hc9 e'9 g'9 h'9 tk'9 FG'9 U'9 R'9 => ?_)⟩; (all_goals ((try (exfalso; omega)))); rotate_left))) | ((with_reducible show wpAny _ _ (call (Value.ref 220) [Value.int _ _, Value.ref 211]) _ _ _); k_dflt (refine' (enforce_V ?zzh0 ?zzh1).use ?zzkB ?zzkF ?zzkX ?zzkN ?zzkT ?zzkf ?zzkd ?zzku ?_); (k_extra "mine rc"); (case zzh0 => first | assumption | omega); (case zzh1 => first | assumption | omega); (focus (refine ⟨(fun hc9 t'9 h'9 tk'9 F'9 N'9 => ?_), (fun hc9 e'9 g'9 h'9 tk'9 FG'9 U'9 R'9 => ?_)⟩; (all_goals ((try (exfalso; omega)))); rotate_left))) | ((with_reducible show wpAny _ _ (call (Value.ref 220) [Value.int _ _, Value.ref _]) _ _ _); k_dflt (refine' (enforce_k ?zzhK ?zzhk ?zzh0 ?zzh1).use ?zzkB ?zzkF ?zzkX ?zzkN ?zzkT ?zzkf ?zzkd ?zzku ?_; (case zzhK => assumption); (case zzhk => first | assumption | omega)); (k_extra "mine rc"); (case zzh0 => first | assumption | omega); (case zzh1 => first | assumption | omega); (focus (refine ⟨(fun hc9 t'9 h'9 tk'9 F'9 N'9 => ?_), (fun hc9 e'9 g'9 h'9 tk'9 FG'9 U'9 R'9 => ?_)⟩; (all_goals ((try (exfalso; omega)))); rotate_left)))))
  k_with "m call ref" => (k_here; (first | ((with_reducible show wpAny _ _ (call (Value.ref 291) [Value.ref _, Value.ref 187, Value.int _ _]) _ _ _); fail) | ((with_reducible show wpAny _ _ (call (Value.ref 291) [Value.ref _, Value.ref 199, Value.int _ _]) _ _ _); fail) | ((with_reducible show wpAny _ _ (call (Value.ref 291) [Value.ref _, Value.ref 211, Value.int _ _]) _ _ _); fail) | ((with_reducible show wpAny _ _ (call (Value.ref 291) [Value.ref _, Value.ref _, Value.int _ _]) _ _ _); k_dflt (refine' (get_okN ?zzhK ?zzhk0 ?zzhw ?zzh0 ?zzh1 ?zzhb ?zzm1 ?zzm2 ?zzm3).use ?zzkB ?zzkF ?zzkX ?zzkN ?zzkT ?zzkf ?zzkd ?zzku ?_; (case zzhK => assumption); (case zzhk0 => assumption); (case zzhw => exact wdK_le _)); (k_extra "mine rc"); (case zzm1 => k_extra "mine mem"); (case zzm2 => k_extra "mine mem"); (case zzm3 => k_extra "mine mem"); (case zzh0 => first | assumption | omega); (case zzh1 => first | assumption | omega); (case zzhb => assumption); (focus (refine saysRet_reads (by assumption) (fun i9 hv9 hr9 hi9 t'9 h'9 tk'9 F'9 N'9 => ?_) (fun hv9 hr9 e'9 g'9 h'9 tk'9 FG'9 U'9 R'9 => ?_) (fun hv9 hr9 e'9 g'9 h'9 tk'9 FG'9 U'9 R'9 => ?_); (all_goals ((try (exfalso; omega))))))) | ((with_reducible show wpAny _ _ (call (Value.ref 291) [Value.ref _, Value.ref _, Value.int _ _]) _ _ _); k_dflt (refine' (get_ok0 ?zzhK ?zzh0 ?zzh1 ?zzhb ?zzm1 ?zzm2 ?zzm3).use ?zzkB ?zzkF ?zzkX ?zzkN ?zzkT ?zzkf ?zzkd ?zzku ?_; (case zzhK => assumption)); (k_extra "mine rc"); (case zzm1 => k_extra "mine mem"); (case zzm2 => k_extra "mine mem"); (case zzm3 => k_extra "mine mem"); (case zzh0 => first | assumption | omega); (case zzh1 => first | assumption | omega); (case zzhb => assumption); (focus (refine saysRet_reads0 (fun i9 hv9 hr9 t'9 h'9 tk'9 F'9 N'9 => ?_) (fun hv9 hr9 e'9 g'9 h'9 tk'9 FG'9 U'9 R'9 => ?_) (fun hv9 hr9 e'9 g'9 h'9 tk'9 FG'9 U'9 R'9 => ?_); (all_goals ((try (exfalso; omega)))))))))
  k_with "m call ref" => (k_here; (first | ((with_reducible show wpAny _ _ (call (Value.ref 220) [Value.bool _, Value.ref 61]) _ _ _); k_dflt (refine' (enforce_bb).use ?zzkB ?zzkF ?zzkX ?zzkN ?zzkT ?zzkf ?zzkd ?zzku ⟨?_, fun hc => (hc trivial).elim⟩); (k_extra "mine rc"); (intro hc t' h' tk' F' N')) | ((with_reducible show wpAny _ _ (call (Value.ref 220) [Value.int _ _, Value.ref 61]) _ _ _); k_dflt (refine' (enforce_bi ?zzhn).use ?zzkB ?zzkF ?zzkX ?zzkN ?zzkT ?zzkf ?zzkd ?zzku ⟨fun hc => hc.elim, ?_⟩; (case zzhn => assumption)); (k_extra "mine rc"); (intro hc e' g' h' tk' FG' U' R'))))
  k_with "mine mem" => (with_reducible first | assumption | exact List.mem_cons_self | (refine List.mem_cons_of_mem _ ?_; k_extra "mine mem"))
  k_with "k_mem" => (k_extra "mine mem")
  k_with "mine eq" => (assumption)
  k_with "m call ref" => (k_here; (with_reducible show wpAny _ _ (call (Value.ref 320) _) _ _ _); k_dflt (refine' (kinds_ok).use ?zzkB ?zzkF ?zzkX ?zzkN ?zzkT ?zzkf ?zzkd ?zzku ?_); (k_extra "mine rc"); intro l' D' h' tk' F' N' K')
  k_with "m subscriptTail" => (k_here; (with_reducible show wpAny _ _ (subscriptTail _ _ (Value.ref _) (Value.int _ _)) _ _ _); (with_unfolding_all (refine' kinds_item ?zzN ?zzm ?zzK ?zzh0 ?zzh1 ?zzhW ?_ ?zzhs); (case zzN => k_asm); (case zzm => k_extra "mine mem"); (case zzK => k_asm); (case zzh0 => first | assumption | omega); (case zzh1 => first | assumption | omega); (case zzhW => first | assumption | exact rfl); (case zzhs => with_unfolding_all rfl); k_whole); intro a' b' c' N')
  k_with "m UnrEnd" => (k_dflt (refine' unrEnd_tail ?zzF ?zzN ?zzoff ?_; (case zzF => k_asm); (case zzN => k_asm); (case zzoff => exact fun p hp => Nat.ne_of_lt (ktn_ltOf (by assumption) p hp)); k_whole))
  k_with "m call ref" => (k_here; (with_reducible show wpAny _ _ (call (Value.ref 339) _) _ _ _); k_dflt (refine' (number_ok ?zzh0 ?zzh1 ?zzhk0 ?zzhk1 ?zzhb ?zzhi ?zzm1).use ?zzkB ?zzkF ?zzkX ?zzkN ?zzkT ?zzkf ?zzkd ?zzku ?_); (k_extra "mine rc"); (case zzm1 => k_extra "mine mem"); (case zzhi => assumption); (case zzhb => assumption); (case zzh0 => first | assumption | omega); (case zzh1 => first | assumption | omega); (case zzhk0 => first | assumption | omega); (case zzhk1 => first | assumption | omega); (focus (refine rets_rd ?zzz (fun i9 hv9 hb9 t'9 h'9 tk'9 F'9 N'9 => ?_) (fun i9 hv9 t'9 h'9 tk'9 F'9 N'9 => ?_) (fun hv9 t'9 h'9 tk'9 F'9 N'9 => ?_); (case zzz => first | assumption | omega); (all_goals ((try simp only [Int.reduceToNat, loK, hiK] at hv9 hb9); (try simp only [Int.reduceToNat] at hv9); (try (exfalso; exact rd3_nobool hv9)))))))
  k_with "mine end" => ((rename Rets _ _ _ _ _ _ _ => hR); (first | (exact rets_int hR (by k_extra "mine eq") _ _ _ (by assumption) (by first | assumption | exact cb_drop (by assumption) (by kcj_in))) | (exact rets_typ hR (by k_extra "mine eq") _ _ _ (by assumption) (by first | assumption | exact cb_drop (by assumption) (by kcj_in))) | (exact rets_fin hR (by k_extra "mine eq") _ _ _ (by assumption) (by first | assumption | exact cb_drop (by assumption) (by kcj_in))) | (exact rets_bytes hR (by k_extra "mine eq") _ _ _ (by assumption) (by first | assumption | exact cb_drop (by assumption) (by kcj_in))) | (exact rets_bool hR (by k_extra "mine eq") 0 _ _ (by assumption) (by first | assumption | exact cb_drop (by assumption) (by kcj_in)))))
  k_with "m call ref" => (k_here; (with_reducible show wpAny _ _ (call (Value.ref 346) _) _ _ _); k_dflt (refine' (held_ok ?zzh0 ?zzh1 ?zzhk0 ?zzhk1 ?zzhb ?zzhi ?zzm1).use ?zzkB ?zzkF ?zzkX ?zzkN ?zzkT ?zzkf ?zzkd ?zzku ?_); (k_extra "mine rc"); (case zzm1 => k_extra "mine mem"); (case zzhi => assumption); (case zzhb => assumption); (case zzh0 => first | assumption | omega); (case zzh1 => first | assumption | omega); (case zzhk0 => first | assumption | omega); (case zzhk1 => first | assumption | omega); (first | ((focus (refine rets_reads ?zzz (fun i9 hv9 hr9 hb9 t'9 h'9 tk'9 F'9 N'9 => ?_) (fun hv9 hr9 t'9 h'9 tk'9 F'9 N'9 => ?_) (fun hv9 hr9 t'9 h'9 tk'9 F'9 N'9 => ?_); (case zzz => decide); (all_goals ((try simp only [Int.reduceToNat, loK, hiK] at hv9 hb9); (try (exfalso; omega)); (try simp only [Int.reduceToNat] at hv9)))))) | (refine rets_reads4 (fun i9 hv9 t'9 h'9 tk'9 F'9 N'9 => ?_) (fun i9 hv9 t'9 h'9 tk'9 F'9 N'9 => ?_) (fun hv9 t'9 h'9 tk'9 F'9 N'9 => ?_) (fun hv9 t'9 h'9 tk'9 F'9 N'9 => ?_)) | ((focus (refine rets_reads ?zzz (fun i9 hv9 hr9 hb9 t'9 h'9 tk'9 F'9 N'9 => ?_) (fun hv9 hr9 t'9 h'9 tk'9 F'9 N'9 => ?_) (fun hv9 hr9 t'9 h'9 tk'9 F'9 N'9 => ?_); (case zzz => first | decide | assumption | omega); (all_goals ((try simp only [Int.reduceToNat, loK, hiK] at hv9 hb9); (try (exfalso; omega)); (try simp only [Int.reduceToNat] at hv9))))))))
  k_with "mine held" => ((focus (refine rets_reads ?zzz (fun i9 hv9 hr9 hb9 t'9 h'9 tk'9 F'9 N'9 => ?_) (fun hv9 hr9 t'9 h'9 tk'9 F'9 N'9 => ?_) (fun hv9 hr9 t'9 h'9 tk'9 F'9 N'9 => ?_); (case zzz => first | decide | assumption | omega); (all_goals ((try simp only [Int.reduceToNat, loK, hiK] at hv9 hb9); (try (exfalso; omega)); (try simp only [Int.reduceToNat] at hv9))))))
  k_with "mine num" => ((focus (refine rets_rd ?zzz (fun i9 hv9 hb9 t'9 h'9 tk'9 F'9 N'9 => ?_) (fun i9 hv9 t'9 h'9 tk'9 F'9 N'9 => ?_) (fun hv9 t'9 h'9 tk'9 F'9 N'9 => ?_); (case zzz => first | assumption | omega); (all_goals ((try simp only [Int.reduceToNat, loK, hiK] at hv9 hb9); (try simp only [Int.reduceToNat] at hv9); (try (exfalso; exact rd3_nobool hv9)))))))
  k_with "m call ref" => (k_here; (first | ((with_reducible show wpAny _ _ (call (Value.ref 353) _) _ _ _); k_dflt (refine' (lrow_ok ?zzh0 ?zzh1 ?zzh2 ?zzh3 ?zzhb ?zzhi ?zzm1).use ?zzkB ?zzkF ?zzkX ?zzkN ?zzkT ?zzkf ?zzkd ?zzku ?_); (k_extra "mine rc"); (case zzm1 => k_extra "mine mem"); (case zzhi => assumption); (case zzhb => assumption); (case zzh0 => first | assumption | omega); (case zzh1 => first | assumption | omega); (case zzh2 => first | assumption | omega); (case zzh3 => first | assumption | omega); refine rets_row (fun i9 hv9 hb9 t'9 h'9 tk'9 F'9 N'9 => ?_) (fun hv9 t'9 h'9 tk'9 F'9 N'9 => ?_) (fun hv9 t'9 h'9 tk'9 F'9 N'9 => ?_)) | ((with_reducible show wpAny _ _ (call (Value.ref 360) _) _ _ _); k_dflt (refine' (lfar_ok ?zzh0 ?zzh1 ?zzhb ?zzhi ?zzm1).use ?zzkB ?zzkF ?zzkX ?zzkN ?zzkT ?zzkf ?zzkd ?zzku ?_); (k_extra "mine rc"); (case zzm1 => k_extra "mine mem"); (case zzhi => assumption); (case zzhb => assumption); (case zzh0 => first | assumption | omega); (case zzh1 => first | assumption | omega); (focus (refine rets_far (fun i9 hv9 hr9 hb9 t'9 h'9 tk'9 F'9 N'9 => ?_) (fun hv9 hr9 t'9 h'9 tk'9 F'9 N'9 => ?_) (fun hv9 hr9 t'9 h'9 tk'9 F'9 N'9 => ?_); (all_goals ((try (exfalso; omega)))))))))
  k_with "mine lrow" => (refine rets_row (fun i9 hv9 hb9 t'9 h'9 tk'9 F'9 N'9 => ?_) (fun hv9 t'9 h'9 tk'9 F'9 N'9 => ?_) (fun hv9 t'9 h'9 tk'9 F'9 N'9 => ?_))
  k_with "mine lfar" => ((focus (refine rets_far (fun i9 hv9 hr9 hb9 t'9 h'9 tk'9 F'9 N'9 => ?_) (fun hv9 hr9 t'9 h'9 tk'9 F'9 N'9 => ?_) (fun hv9 hr9 t'9 h'9 tk'9 F'9 N'9 => ?_); (all_goals ((try (exfalso; omega)))))))
  k_with "mine held" => (refine rets_reads4 (fun i9 hv9 t'9 h'9 tk'9 F'9 N'9 => ?_) (fun i9 hv9 t'9 h'9 tk'9 F'9 N'9 => ?_) (fun hv9 t'9 h'9 tk'9 F'9 N'9 => ?_) (fun hv9 t'9 h'9 tk'9 F'9 N'9 => ?_))
  k_with "mine held" => ((focus (refine rets_reads ?zzz (fun i9 hv9 hr9 hb9 t'9 h'9 tk'9 F'9 N'9 => ?_) (fun hv9 hr9 t'9 h'9 tk'9 F'9 N'9 => ?_) (fun hv9 hr9 t'9 h'9 tk'9 F'9 N'9 => ?_); (case zzz => decide); (all_goals ((try simp only [Int.reduceToNat, loK, hiK] at hv9 hb9); (try (exfalso; omega)); (try simp only [Int.reduceToNat] at hv9))))))
  k_with "m eval Call" => (refine Call_ ?_)
  k_with "m eval Name" => (k_here; (k_dflt first | (name_kind "cell"; refine' nameX_C (by k_asm) (by exact rfl) ?zzm ?zzd ?_ (by kernel_rfl) (by exact rfl) (by kernel_rfl); (case zzm => k_mem); (case zzd => k_asm); k_whole) | (k_extra "mine name")))
  k_with "mine room" => (first | (with_reducible exact room_le (by assumption) (by decide)) | ((try simp only [depth_under_make, depth_under_kw, depth_in1, depth_deeper, depth_caller, units_under_make, units_in1, units_deeper, Around.mark_units, units_caller]); (try dsimp only [ktrTop]); (first | (with_reducible exact room_le (by assumption) (by decide)) | (with_reducible exact room_le2 (by assumption) (by decide)) | (with_reducible exact room_le3 (by assumption) (by decide)) | (with_reducible exact room_le4 (by assumption) (by decide)))))
  k_with "k_room" => (k_extra "mine room")
  k_with "k_units" => (k_extra "mine room")
  trivial
section
section
variable {prog : Program} {w : World} {A : Around} {E : Value → Shared → Prop} {s : Shared} {value slice : PySem.Expr} {h₀ : Heap} {L l : Addr} {news : List (Addr × Obj)} {k x0 x1 x2 x3 : Int} {u t0 t1 t2 t3 : Tok} {c : Nat} {Q : Value → Shared → Prop}
theorem menu4 (N : News h₀ L s.heap news) (hm : (l, listOf [.int x0 t0, .int x1 t1, .int x2 t2, .int x3 t3].toArray c) ∈ news) (h0 : 0 ≤ k) (h1 : k < 4) (h : ∀ t, Q (.int ([x0, x1, x2, x3].getD k.toNat 0) t) s)
    (hs : subscripted slice false (.ref l) (.int k u) = operate [.ref l, .int k u] (getItem (.ref l) (.int k u)) := by with_unfolding_all rfl) :
    wpAny (model prog w) A (subscriptTail value slice (.ref l) (.int k u)) Q E s := by
  have hl : s.heap.IsList l [.int x0 t0, .int x1 t1, .int x2 t2, .int x3 t3].toArray := ⟨_, N.get hm, rfl, _, rfl⟩
  obtain ⟨n, rfl⟩ : ∃ n : Nat, k = n := ⟨k.toNat, by omega⟩
  have hk : n = 0 ∨ n = 1 ∨ n = 2 ∨ n = 3 := by omega
  rcases hk with rfl | rfl | rfl | rfl
  · exact item_litK hl h0 (by omega) rfl (h t0) hs
  · exact item_litK hl h0 (by omega) rfl (h t1) hs
  · exact item_litK hl h0 (by omega) rfl (h t2) hs
  · exact item_litK hl h0 (by omega) rfl (h t3) hs
end
theorem kw43 : True := by
  w_top off
  k_with "m subscriptTail List" => (k_here; (with_reducible show wpAny _ _ (subscriptTail _ _ (Value.ref _) (Value.int _ _)) _ _ _); (with_unfolding_all (refine' menu4 ?zzN ?zzm ?zzh0 ?zzh1 ?_ ?zzhs); (case zzN => k_asm); (case zzm => k_extra "mine mem"); (case zzh0 => exact fm_nn (by decide)); (case zzh1 => exact fm_lt (by decide)); (case zzhs => with_unfolding_all rfl); k_whole); intro t')
  k_with "m subscriptTail Call Name nil nil Name ref int" => (k_here; (with_reducible show wpAny _ _ (subscriptTail _ _ (Value.ref _) (Value.int _ _)) _ _ _); (with_unfolding_all (refine' kinds_item ?zzN ?zzm ?zzK ?zzh0 ?zzh1 ?zzhW ?_ ?zzhs); (case zzN => k_asm); (case zzm => k_extra "mine mem"); (case zzK => k_asm); (case zzh0 => first | assumption | omega); (case zzh1 => first | assumption | omega); (case zzhW => first | assumption | exact rfl); (case zzhs => with_unfolding_all rfl); k_whole); intro a' b' c' N')
  k_with "m subscriptTail Subscript" => (k_here; (with_reducible show wpAny _ _ (subscriptTail _ _ (Value.ref _) (Value.int _ _)) _ _ _); k_dflt (refine' item_tupleT ?zzt ?zza ?zzb ?zzc ?zzd ?_; (case zzt => exact News.isTup (by k_asm) (by k_mem)); (case zza => decide); (case zzb => decide); (case zzc => rfl); (case zzd => rfl); k_whole))
  trivial
theorem pieceE2 {w : World} {mean : ExcName → Option Value} {mg mb : Str → Option Value} {p : Program} {loose : List Str} {c1 c2 c3 c4 c5 c6 c7 c8 : Addr} {o1 o2 o3 o4 o5 o6 o7 o8 : Obj} {kind off : Int} {tki to : Tok} {m : Str → Option Value} {y1 y2 y3 y4 : Addr} {p1 p2 p3 p4 : Obj} {led : List (Addr × Obj)}
   (dp un : Nat) (gd : Option (List Code)) (a : Addr) (A₀ : Around) (base h₀ : Heap) (L : Addr) (s : Shared) (Q : Flow → Shared → Prop) (E : Value → Shared → Prop) (B : Below A₀ base [] h₀) (X : (hd.heap_1 w.params).In h₀) (T : Top p loose mean mg mb h₀) (XB : (hd.heap_1 w.params).In base) (TB : Top p loose mean mg mb base) (hd : dp + 50 < recursionLimit) (hu : un + 900 < cLine) (l0 : 404 < c1) (l1 : c1 < c2) (l2 : c2 < c3) (l3 : c3 < c4) (l4 : c4 < c5) (l5 : c5 < c6) (l6 : c6 < c7) (l7 : c7 < c8) (e1 : @Ne Nat y1 c8) (e2 : @Ne Nat y2 c8) (e3 : @Ne Nat y3 c8) (e4 : @Ne Nat y4 c8) (h0 : 0 ≤ kind) (h1 : kind < 9) (h2 : 0 ≤ off) (h3 : off < 24)
   (d3 : o3.data = .cell (some (.int kind tki))) (d4 : o4.data = .cell (some (.int off to))) (d8 : o8.data = .cell none)
   (F : Fr h₀ L s.heap m)
   (N : News h₀ L s.heap [(y1, p1), (y2, p2), (y3, p3), (y4, p4), (c8, o8), (c7, o7), (c6, o6), (c5, o5), (c4, o4), (c3, o3), (c2, o2), (c1, o1), (404, tabObj #[])])
   (hret : ∀ (h' : Heap) (tk' : Nat) (q8 : Obj) (t : Tok), Fr h₀ L h' m →
     News h₀ L h' [(y1, p1), (y2, p2), (y3, p3), (y4, p4), (c8, q8), (c7, o7), (c6, o6), (c5, o5), (c4, o4), (c3, o3), (c2, o2), (c1, o1), (404, tabObj #[])] →
     q8.data = .cell (some (.int (defK kind.toNat off) t)) → Q .next { s with heap := h', toks := tk' }) :
   wpAny (model PySem.Challenge.rw_ke0006_01.row.prog w) (ktrTop dp un gd (Str.ofString "law") lawScope L a (.ref 408) [(Str.ofString "without", c8), (Str.ofString "v", c7), (Str.ofString "table", c6), (Str.ofString "pos", c5), (Str.ofString "off", c4), (Str.ofString "kind", c3), (Str.ofString "flags", c2), (Str.ofString "data", c1)] []) (execs lawE2 (envX (Str.ofString "law") lawScope L a (.ref 408) [(Str.ofString "without", c8), (Str.ofString "v", c7), (Str.ofString "table", c6), (Str.ofString "pos", c5), (Str.ofString "off", c4), (Str.ofString "kind", c3), (Str.ofString "flags", c2), (Str.ofString "data", c1)])) Q E s := by
  revert X; k_fill; intro X
  replace l0 := ltN l0; replace l1 := ltN l1; replace l2 := ltN l2; replace l3 := ltN l3; replace l4 := ltN l4; replace l5 := ltN l5; replace l6 := ltN l6; replace l7 := ltN l7
  show wpAny _ _ (execs [_] _) _ _ _
  k_steps
  rename News _ _ _ _ => N9
  rename Fr _ _ _ _ => F9
  refine storeX_C F9 (show News h₀ L _ [(y1, p1), (y2, p2), (y3, p3), (y4, p4), (c8, o8), (c7, o7), (c6, o6), (c5, o5), (c4, o4), (c3, o3), (c2, o2), (c1, o1), (404, tabObj #[])] from cb_drop N9 (by kcj_in)) rfl (.tail (fun h => e1 h) (.tail (fun h => e2 h) (.tail (fun h => e3 h) (.tail (fun h => e4 h) (.head (by k_all)))))) d8 fun h' o' F' N' d' => ?_
  k_steps
  all_goals (first | exact hret _ _ _ _ (by assumption) (cb_drop (by assumption) (by kcj_in)) (by assumption))
end
theorem kw44 : True := by
  w_top off
  k_with_none
  k_with "k_ne" => ((try dsimp only); with_reducible first | exact Nat.ne_of_lt (by k_extra "mine lt") | exact Nat.ne_of_gt (by k_extra "mine lt") | fail)
  k_with "mine lt" => (first | assumption | (refine Nat.lt_trans (by assumption) ?_; k_extra "mine lt"))
  k_with "mine rc" => ((case zzkB => k_asm); (case zzkF => k_asm); (case zzkX => k_asm); (case zzkN => k_asm); (case zzkT => k_asm); (case zzkf => first | k_dflt exact rfl | assumption); (case zzkd => k_extra "mine room"); (case zzku => k_extra "mine room"))
  k_with "mine ra" => ((case zzkB => k_asm); (case zzkF => k_asm); (case zzkX => k_asm); (case zzkN => k_asm); (case zzkT => k_asm); (case zzkf => first | exact rfl | assumption); (case zzkd => ktr_room); (case zzku => ktr_units))
  k_with "mine name" => (first | (name_kind "local"; refine' nameX_L (by k_asm) (by exact rfl) ?_ (by kernel_rfl) (by kernel_rfl) (by kernel_rfl); k_whole) | (name_kind "globalImplicit"; refine' nameX_K (by k_asm) (by k_asm) (by k_asm) (by k_is) ?_ (by kernel_rfl) (by kernel_rfl) (by kernel_rfl); k_whole) | (name_kind "globalImplicit"; refine' nameX_B (by k_asm) (by k_asm) (by k_asm) (by k_is) (by boot_fast) (by decide) ?_ (by kernel_rfl) (by kernel_rfl) (by kernel_rfl); k_whole))
  k_with "m eval Name" => (k_here; k_dflt k_extra "mine name")
  k_with "k_room" => (ktr_room)
  k_with "k_units" => (ktr_units)
  k_with "m getMethod ref" => (k_here; (with_reducible show wpAny _ _ (getMethod (Value.ref _) (PySem.Str.ofString "unpack_from") _) _ _ _); (refine' method_unpack ?zzhP ?_; (case zzhP => exact (Frag.In.keeps (by k_asm) (Fr.keep (by k_asm))) _ _ (by assumption)); k_whole))
  k_with "m call builtin:_struct.Struct.unpack_from" => (k_here; ((focus (refine' unpack_call ?zzhh ?zzF ?zzN ?zzhP ?zzhd ?zzPK ?zzh0 ?zzh1 ?zzhb ?zzhw (fun hin9 T'9 t'9 h'9 tk'9 F'9 N'9 l19 => ?_) (fun hin9 h'9 tk'9 e'9 x'9 => ?_); (case zzhh => rfl); (case zzF => k_asm); (case zzN => k_asm); (case zzhP => exact (Frag.In.keeps (by k_asm) (Fr.keep (by k_asm))) _ _ (by assumption)); (case zzhd => exact News.get (by k_asm) (by k_mem)); (case zzPK => assumption); (case zzh0 => assumption); (case zzh1 => omega); (case zzhb => assumption); (case zzhw => assumption); (all_goals ((try k_lt l19))); rotate_left))))
  k_with "m leaving ref" => (k_here; (first | (refine' leave_onX rfl ?zzk1 ?zzk2 ?zzk3 ?zzk4 ?_; (case zzk3 => assumption); (case zzk1 => assumption); (case zzk4 => assumption); (case zzk2 => assumption); k_whole; intro h' R' U'; (try dsimp only at R' U' ⊢)) | (refine' leave_newN ?zzk1 ?zzk0 ?zzk2 ?zzk3 ?_; (case zzk0 => assumption); (case zzk1 => assumption); (case zzk2 => assumption); (case zzk3 => k_asm); k_whole; intro h' R' U'; (try dsimp only at R' U' ⊢)) | (refine' leave_raiseN ?zzk1 ?zzk0 ?zzk2 ?zzk3 ?_; (case zzk0 => first | assumption | (exact Heap.MadeExc.of (by assumption))); (case zzk1 => assumption); (case zzk2 => assumption); (case zzk3 => k_asm); k_whole; intro h' R' U'; (try dsimp only at R' U' ⊢))))
  k_with "m getAttr ref" => (k_here; (first | (refine' cls_val ?zzk1 ?zzk2 ?zzk3 ?zzk4 ?zzk5 ?zzk6 ?_; (case zzk1 => k_asm); (case zzk2 => k_asm); (case zzk3 => exact Flag.ty (by assumption)); (case zzk4 => exact Flag.rd (by assumption)); (case zzk5 => first | (exact Flag.mn (by assumption)) | (exact Flag.mx (by assumption)) | (exact Flag.pkt (by assumption)) | assumption); (case zzk6 => rfl); k_whole) | (refine' cls_pyt ?zzX ?zzr ?zza ?zzb ?zzT ?_; (case zza => exact Flag.pyt (by assumption)); (case zzX => exact (Frag.In.keeps (by k_asm) (Fr.keep (by k_asm)))); (case zzr => exact Flag.rd (by assumption)); (case zzb => exact Flag.pym (by assumption)); (case zzT => first | exact FF.mt_int | exact FF.mt_bool | assumption); k_whole)))
  k_with "m compareOp LtE bool int" => (refine le_bool_int ?_)
  k_with "m compareOp LtE int bool" => (refine le_int_bool ?_)
  k_with "m call ref" => (k_here; (first | ((with_reducible show wpAny _ _ (call (Value.ref 220) [Value.int _ _, Value.ref 199]) _ _ _); (focus (k_dflt (refine' (enforce_U ?zzh0 ?zzh1).use ?zzkB ?zzkF ?zzkX ?zzkN ?zzkT ?zzkf ?zzkd ?zzku ⟨(fun hc9 t'9 h'9 tk'9 F'9 N'9 => ?_), (fun hc9 e'9 g'9 h'9 tk'9 FG'9 U'9 R'9 => ?_)⟩); (k_extra "mine ra"); (case zzh0 => first | assumption | omega); (case zzh1 => first | assumption | omega); (all_goals ((try (exfalso; omega)))); rotate_left))) | ((with_reducible show wpAny _ _ (call (Value.ref 220) [Value.int _ _, Value.ref 211]) _ _ _); (focus (k_dflt (refine' (enforce_V ?zzh0 ?zzh1).use ?zzkB ?zzkF ?zzkX ?zzkN ?zzkT ?zzkf ?zzkd ?zzku ⟨(fun hc9 t'9 h'9 tk'9 F'9 N'9 => ?_), (fun hc9 e'9 g'9 h'9 tk'9 FG'9 U'9 R'9 => ?_)⟩); (k_extra "mine ra"); (case zzh0 => first | assumption | omega); (case zzh1 => first | assumption | omega); (all_goals ((try (exfalso; omega)))); rotate_left))) | ((with_reducible show wpAny _ _ (call (Value.ref 220) [Value.int _ _, Value.ref _]) _ _ _); (focus (k_dflt (refine' (enforce_k ?zzhK ?zzhk ?zzh0 ?zzh1).use ?zzkB ?zzkF ?zzkX ?zzkN ?zzkT ?zzkf ?zzkd ?zzku ⟨(fun hc9 t'9 h'9 tk'9 F'9 N'9 => ?_), (fun hc9 e'9 g'9 h'9 tk'9 FG'9 U'9 R'9 => ?_)⟩; (case zzhK => assumption); (case zzhk => assumption)); (k_extra "mine ra"); (case zzh0 => first | assumption | omega); (case zzh1 => first | assumption | omega); (all_goals ((try (exfalso; omega)))); rotate_left)))))
  k_with "m getMethod ref" => (k_here; (with_reducible show wpAny _ _ (getMethod (Value.ref _) (PySem.Str.ofString "py_type") _) _ _ _); (refine' method_of_cls ?zzF ?zzX ?zzg ?_; (case zzF => k_asm); (case zzX => k_asm); (case zzg => exact Flag.sp (by assumption)); k_whole))
  k_with "m call ref" => (k_here; (first | ((with_reducible show wpAny _ _ (call (Value.ref 227) [Value.ref 46, Value.ref _, Value.int _ _]) _ _ _); k_dflt (refine' (get_encode_U ?zzh0 ?zzh1 ?zzhb ?zzhm).use ?zzkB ?zzkF ?zzkX ?zzkN ?zzkT ?zzkf ?zzkd ?zzku ?_); (k_extra "mine rc"); (case zzhm => k_extra "mine mem"); (case zzh0 => first | assumption | omega); (case zzh1 => first | assumption | omega); (case zzhb => assumption); (first | ((focus (refine saysRet_bool (fun i9 hv9 t'9 h'9 tk'9 F'9 N'9 => ?_) (fun hv9 e'9 g'9 h'9 tk'9 FG'9 U'9 R'9 => ?_); rotate_left))) | ((focus (refine saysRet_int ?zzhk ?zzhn (fun i9 hv9 hi9 t'9 h'9 tk'9 F'9 N'9 => ?_) (fun hv9 e'9 g'9 h'9 tk'9 FG'9 U'9 R'9 => ?_); (case zzhk => first | assumption | omega | decide); (case zzhn => first | assumption | omega); (all_goals ((try simp only [loK, hiK] at hi9))); rotate_left))))) | ((with_reducible show wpAny _ _ (call (Value.ref 227) [Value.ref _, Value.ref _, Value.int _ _]) _ _ _); k_dflt (refine' (get_encode ?zzhP ?zzPK ?zzh0 ?zzh1 ?zzhb ?zzhw ?zzhm).use ?zzkB ?zzkF ?zzkX ?zzkN ?zzkT ?zzkf ?zzkd ?zzku ?_; (case zzhP => assumption); (case zzPK => assumption); (case zzhw => assumption)); (k_extra "mine rc"); (case zzhm => k_extra "mine mem"); (case zzh0 => first | assumption | omega); (case zzh1 => first | assumption | omega); (case zzhb => assumption); (first | ((focus (refine saysRet_bool (fun i9 hv9 t'9 h'9 tk'9 F'9 N'9 => ?_) (fun hv9 e'9 g'9 h'9 tk'9 FG'9 U'9 R'9 => ?_); rotate_left))) | ((focus (refine saysRet_int ?zzhk ?zzhn (fun i9 hv9 hi9 t'9 h'9 tk'9 F'9 N'9 => ?_) (fun hv9 e'9 g'9 h'9 tk'9 FG'9 U'9 R'9 => ?_); (case zzhk => first | assumption | omega | decide); (case zzhn => first | assumption | omega); (all_goals ((try simp only [loK, hiK] at hi9))); rotate_left)))))))
  k_with "m call ref" => (k_here; (first | ((with_reducible show wpAny _ _ (call (Value.ref 291) [Value.ref _, Value.ref 187, Value.int _ _]) _ _ _); k_dflt (refine' (get_S ?zzh0 ?zzh1 ?zzhb ?zzm1 ?zzm2 ?zzm3).use ?zzkB ?zzkF ?zzkX ?zzkN ?zzkT ?zzkf ?zzkd ?zzku ?_); (k_extra "mine rc"); (case zzm1 => k_extra "mine mem"); (case zzm2 => k_extra "mine mem"); (case zzm3 => k_extra "mine mem"); (case zzh0 => first | assumption | omega); (case zzh1 => first | assumption | omega); (case zzhb => assumption); (focus (refine saysRet_reads (by decide) (fun i9 hv9 hr9 hi9 t'9 h'9 tk'9 F'9 N'9 => ?_) (fun hv9 hr9 e'9 g'9 h'9 tk'9 FG'9 U'9 R'9 => ?_) (fun hv9 hr9 e'9 g'9 h'9 tk'9 FG'9 U'9 R'9 => ?_); (all_goals ((try simp only [loK, hiK] at hi9); (try (exfalso; omega))))))) | ((with_reducible show wpAny _ _ (call (Value.ref 291) [Value.ref _, Value.ref 199, Value.int _ _]) _ _ _); k_dflt (refine' (get_U ?zzh0 ?zzh1 ?zzhb ?zzm1 ?zzm2 ?zzm3).use ?zzkB ?zzkF ?zzkX ?zzkN ?zzkT ?zzkf ?zzkd ?zzku ?_); (k_extra "mine rc"); (case zzm1 => k_extra "mine mem"); (case zzm2 => k_extra "mine mem"); (case zzm3 => k_extra "mine mem"); (case zzh0 => first | assumption | omega); (case zzh1 => first | assumption | omega); (case zzhb => assumption); (focus (refine saysRet_reads (by decide) (fun i9 hv9 hr9 hi9 t'9 h'9 tk'9 F'9 N'9 => ?_) (fun hv9 hr9 e'9 g'9 h'9 tk'9 FG'9 U'9 R'9 => ?_) (fun hv9 hr9 e'9 g'9 h'9 tk'9 FG'9 U'9 R'9 => ?_); (all_goals ((try simp only [loK, hiK] at hi9); (try (exfalso; omega))))))) | ((with_reducible show wpAny _ _ (call (Value.ref 291) [Value.ref _, Value.ref 211, Value.int _ _]) _ _ _); k_dflt (refine' (get_V ?zzh0 ?zzh1 ?zzhb ?zzm1 ?zzm2 ?zzm3).use ?zzkB ?zzkF ?zzkX ?zzkN ?zzkT ?zzkf ?zzkd ?zzku ?_); (k_extra "mine rc"); (case zzm1 => k_extra "mine mem"); (case zzm2 => k_extra "mine mem"); (case zzm3 => k_extra "mine mem"); (case zzh0 => first | assumption | omega); (case zzh1 => first | assumption | omega); (case zzhb => assumption); (focus (refine saysRet_reads (by decide) (fun i9 hv9 hr9 hi9 t'9 h'9 tk'9 F'9 N'9 => ?_) (fun hv9 hr9 e'9 g'9 h'9 tk'9 FG'9 U'9 R'9 => ?_) (fun hv9 hr9 e'9 g'9 h'9 tk'9 FG'9 U'9 R'9 => ?_); (all_goals ((try simp only [loK, hiK] at hi9); (try (exfalso; omega)))))))))
  k_with "mine end" => ((rename SaysRet _ _ _ _ _ _ _ _ _ _ => hR); (first | (exact hR.int (by k_extra "mine eq") _ _ _ (by assumption) (by first | assumption | exact cb_drop (by assumption) (by kcj_in))) | (exact hR.bytes (by k_extra "mine eq") _ _ _ (by assumption) (by first | assumption | exact cb_drop (by assumption) (by kcj_in))) | (exact hR.bool (by k_extra "mine eq") 0 _ _ (by assumption) (by first | assumption | exact cb_drop (by assumption) (by kcj_in))) | (exact hR.typ (by k_extra "mine eq") _ _ _ _ (by assumption) (by assumption) (by first | assumption | exact raisedSN_weak (by assumption) (by kcj_in))) | (exact hR.fin (by k_extra "mine eq") _ _ _ _ (by assumption) (by assumption) (by first | assumption | exact raisedSN_weak (by assumption) (by kcj_in)))))
  k_with "m call ref" => (k_here; (with_reducible show wpAny _ _ (call (Value.ref 249) [Value.ref _, Value.int _ _]) _ _ _); k_dflt (refine' (offset_ok ?zzh0 ?zzh1 ?zzh2 ?zzh3 ?zzhb ?zzm1 ?zzm2 ?zzm3).use ?zzkB ?zzkF ?zzkX ?zzkN ?zzkT ?zzkf ?zzkd ?zzku ?_); (k_extra "mine rc"); (case zzm1 => k_extra "mine mem"); (case zzm2 => k_extra "mine mem"); (case zzm3 => k_extra "mine mem"); (case zzh0 => first | assumption | omega); (case zzh1 => first | assumption | omega); (case zzh2 => first | assumption | omega); (case zzh3 => first | assumption | omega); (case zzhb => assumption); refine saysRet_row (fun i9 hv9 hi9 t'9 h'9 tk'9 F'9 N'9 => ?_) (fun hv9 e'9 g'9 h'9 tk'9 FG'9 U'9 R'9 => ?_) (fun hv9 e'9 g'9 h'9 tk'9 FG'9 U'9 R'9 => ?_))
  k_with "m call ref" => (k_here; (first | ((with_reducible show wpAny _ _ (call (Value.ref 220) [Value.int _ _, Value.ref 199]) _ _ _); k_dflt (refine' (enforce_U ?zzh0 ?zzh1).use ?zzkB ?zzkF ?zzkX ?zzkN ?zzkT ?zzkf ?zzkd ?zzku ?_); (k_extra "mine rc"); (case zzh0 => first | assumption | omega); (case zzh1 => first | assumption | omega); (focus (refine ⟨(fun hc9 t'9 h'9 tk'9 F'9 N'9 => ?_), (fun hc9 e'9 g'9 h'9 tk'9 FG'9 U'9 R'9 => ?_)⟩; (all_goals ((try (exfalso; omega)))); rotate_left))) | ((with_reducible show wpAny _ _ (call (Value.ref 220) [Value.int _ _, Value.ref 211]) _ _ _); k_dflt (refine' (enforce_V ?zzh0 ?zzh1).use ?zzkB ?zzkF ?zzkX ?zzkN ?zzkT ?zzkf ?zzkd ?zzku ?_); (k_extra "mine rc"); (case zzh0 => first | assumption | omega); (case zzh1 => first | assumption | omega); (focus (refine ⟨(fun hc9 t'9 h'9 tk'9 F'9 N'9 => ?_), (fun hc9 e'9 g'9 h'9 tk'9 FG'9 U'9 R'9 => ?_)⟩; (all_goals ((try (exfalso; omega)))); rotate_left))) | ((with_reducible show wpAny _ _ (call (Value.ref 220) [Value.int _ _, Value.ref _]) _ _ _); k_dflt (refine' (enforce_k ?zzhK ?zzhk ?zzh0 ?zzh1).use ?zzkB ?zzkF ?zzkX ?zzkN ?zzkT ?zzkf ?zzkd ?zzku ?_; (case zzhK => assumption); (case zzhk => first | assumption | omega)); (k_extra "mine rc"); (case zzh0 => first | assumption | omega); (case zzh1 => first | assumption | omega); (focus (refine ⟨(fun hc9 t'9 h'9 tk'9 F'9 N'9 => ?_), (fun hc9 e'9 g'9 h'9 tk'9 FG'9 U'9 R'9 => ?_)⟩; (all_goals ((try (exfalso; omega)))); rotate_left)))))
  k_with "m call ref" => (k_here; (first | ((with_reducible show wpAny _ _ (call (Value.ref 291) [Value.ref _, Value.ref 187, Value.int _ _]) _ _ _); fail) | ((with_reducible show wpAny _ _ (call (Value.ref 291) [Value.ref _, Value.ref 199, Value.int _ _]) _ _ _); fail) | ((with_reducible show wpAny _ _ (call (Value.ref 291) [Value.ref _, Value.ref 211, Value.int _ _]) _ _ _); fail) | ((with_reducible show wpAny _ _ (call (Value.ref 291) [Value.ref _, Value.ref _, Value.int _ _]) _ _ _); k_dflt (refine' (get_okN ?zzhK ?zzhk0 ?zzhw ?zzh0 ?zzh1 ?zzhb ?zzm1 ?zzm2 ?zzm3).use ?zzkB ?zzkF ?zzkX ?zzkN ?zzkT ?zzkf ?zzkd ?zzku ?_; (case zzhK => assumption); (case zzhk0 => assumption); (case zzhw => exact wdK_le _)); (k_extra "mine rc"); (case zzm1 => k_extra "mine mem"); (case zzm2 => k_extra "mine mem"); (case zzm3 => k_extra "mine mem"); (case zzh0 => first | assumption | omega); (case zzh1 => first | assumption | omega); (case zzhb => assumption); (focus (refine saysRet_reads (by assumption) (fun i9 hv9 hr9 hi9 t'9 h'9 tk'9 F'9 N'9 => ?_) (fun hv9 hr9 e'9 g'9 h'9 tk'9 FG'9 U'9 R'9 => ?_) (fun hv9 hr9 e'9 g'9 h'9 tk'9 FG'9 U'9 R'9 => ?_); (all_goals ((try (exfalso; omega))))))) | ((with_reducible show wpAny _ _ (call (Value.ref 291) [Value.ref _, Value.ref _, Value.int _ _]) _ _ _); k_dflt (refine' (get_ok0 ?zzhK ?zzh0 ?zzh1 ?zzhb ?zzm1 ?zzm2 ?zzm3).use ?zzkB ?zzkF ?zzkX ?zzkN ?zzkT ?zzkf ?zzkd ?zzku ?_; (case zzhK => assumption)); (k_extra "mine rc"); (case zzm1 => k_extra "mine mem"); (case zzm2 => k_extra "mine mem"); (case zzm3 => k_extra "mine mem"); (case zzh0 => first | assumption | omega); (case zzh1 => first | assumption | omega); (case zzhb => assumption); (focus (refine saysRet_reads0 (fun i9 hv9 hr9 t'9 h'9 tk'9 F'9 N'9 => ?_) (fun hv9 hr9 e'9 g'9 h'9 tk'9 FG'9 U'9 R'9 => ?_) (fun hv9 hr9 e'9 g'9 h'9 tk'9 FG'9 U'9 R'9 => ?_); (all_goals ((try (exfalso; omega)))))))))
  k_with "m call ref" => (k_here; (first | ((with_reducible show wpAny _ _ (call (Value.ref 220) [Value.bool _, Value.ref 61]) _ _ _); k_dflt (refine' (enforce_bb).use ?zzkB ?zzkF ?zzkX ?zzkN ?zzkT ?zzkf ?zzkd ?zzku ⟨?_, fun hc => (hc trivial).elim⟩); (k_extra "mine rc"); (intro hc t' h' tk' F' N')) | ((with_reducible show wpAny _ _ (call (Value.ref 220) [Value.int _ _, Value.ref 61]) _ _ _); k_dflt (refine' (enforce_bi ?zzhn).use ?zzkB ?zzkF ?zzkX ?zzkN ?zzkT ?zzkf ?zzkd ?zzku ⟨fun hc => hc.elim, ?_⟩; (case zzhn => assumption)); (k_extra "mine rc"); (intro hc e' g' h' tk' FG' U' R'))))
  k_with "mine mem" => (with_reducible first | assumption | exact List.mem_cons_self | (refine List.mem_cons_of_mem _ ?_; k_extra "mine mem"))
  k_with "k_mem" => (k_extra "mine mem")
  k_with "mine eq" => (assumption)
  k_with "m call ref" => (k_here; (with_reducible show wpAny _ _ (call (Value.ref 320) _) _ _ _); k_dflt (refine' (kinds_ok).use ?zzkB ?zzkF ?zzkX ?zzkN ?zzkT ?zzkf ?zzkd ?zzku ?_); (k_extra "mine rc"); intro l' D' h' tk' F' N' K')
  k_with "m subscriptTail" => (k_here; (with_reducible show wpAny _ _ (subscriptTail _ _ (Value.ref _) (Value.int _ _)) _ _ _); (with_unfolding_all (refine' kinds_item ?zzN ?zzm ?zzK ?zzh0 ?zzh1 ?zzhW ?_ ?zzhs); (case zzN => k_asm); (case zzm => k_extra "mine mem"); (case zzK => k_asm); (case zzh0 => first | assumption | omega); (case zzh1 => first | assumption | omega); (case zzhW => first | assumption | exact rfl); (case zzhs => with_unfolding_all rfl); k_whole); intro a' b' c' N')
  k_with "m UnrEnd" => (k_dflt (refine' unrEnd_tail ?zzF ?zzN ?zzoff ?_; (case zzF => k_asm); (case zzN => k_asm); (case zzoff => exact fun p hp => Nat.ne_of_lt (ktn_ltOf (by assumption) p hp)); k_whole))
  k_with "m call ref" => (k_here; (with_reducible show wpAny _ _ (call (Value.ref 339) _) _ _ _); k_dflt (refine' (number_ok ?zzh0 ?zzh1 ?zzhk0 ?zzhk1 ?zzhb ?zzhi ?zzm1).use ?zzkB ?zzkF ?zzkX ?zzkN ?zzkT ?zzkf ?zzkd ?zzku ?_); (k_extra "mine rc"); (case zzm1 => k_extra "mine mem"); (case zzhi => assumption); (case zzhb => assumption); (case zzh0 => first | assumption | omega); (case zzh1 => first | assumption | omega); (case zzhk0 => first | assumption | omega); (case zzhk1 => first | assumption | omega); (focus (refine rets_rd ?zzz (fun i9 hv9 hb9 t'9 h'9 tk'9 F'9 N'9 => ?_) (fun i9 hv9 t'9 h'9 tk'9 F'9 N'9 => ?_) (fun hv9 t'9 h'9 tk'9 F'9 N'9 => ?_); (case zzz => first | assumption | omega); (all_goals ((try simp only [Int.reduceToNat, loK, hiK] at hv9 hb9); (try simp only [Int.reduceToNat] at hv9); (try (exfalso; exact rd3_nobool hv9)))))))
  k_with "mine end" => ((rename Rets _ _ _ _ _ _ _ => hR); (first | (exact rets_int hR (by k_extra "mine eq") _ _ _ (by assumption) (by first | assumption | exact cb_drop (by assumption) (by kcj_in))) | (exact rets_typ hR (by k_extra "mine eq") _ _ _ (by assumption) (by first | assumption | exact cb_drop (by assumption) (by kcj_in))) | (exact rets_fin hR (by k_extra "mine eq") _ _ _ (by assumption) (by first | assumption | exact cb_drop (by assumption) (by kcj_in))) | (exact rets_bytes hR (by k_extra "mine eq") _ _ _ (by assumption) (by first | assumption | exact cb_drop (by assumption) (by kcj_in))) | (exact rets_bool hR (by k_extra "mine eq") 0 _ _ (by assumption) (by first | assumption | exact cb_drop (by assumption) (by kcj_in)))))
  k_with "m call ref" => (k_here; (with_reducible show wpAny _ _ (call (Value.ref 346) _) _ _ _); k_dflt (refine' (held_ok ?zzh0 ?zzh1 ?zzhk0 ?zzhk1 ?zzhb ?zzhi ?zzm1).use ?zzkB ?zzkF ?zzkX ?zzkN ?zzkT ?zzkf ?zzkd ?zzku ?_); (k_extra "mine rc"); (case zzm1 => k_extra "mine mem"); (case zzhi => assumption); (case zzhb => assumption); (case zzh0 => first | assumption | omega); (case zzh1 => first | assumption | omega); (case zzhk0 => first | assumption | omega); (case zzhk1 => first | assumption | omega); (first | ((focus (refine rets_reads ?zzz (fun i9 hv9 hr9 hb9 t'9 h'9 tk'9 F'9 N'9 => ?_) (fun hv9 hr9 t'9 h'9 tk'9 F'9 N'9 => ?_) (fun hv9 hr9 t'9 h'9 tk'9 F'9 N'9 => ?_); (case zzz => decide); (all_goals ((try simp only [Int.reduceToNat, loK, hiK] at hv9 hb9); (try (exfalso; omega)); (try simp only [Int.reduceToNat] at hv9)))))) | (refine rets_reads4 (fun i9 hv9 t'9 h'9 tk'9 F'9 N'9 => ?_) (fun i9 hv9 t'9 h'9 tk'9 F'9 N'9 => ?_) (fun hv9 t'9 h'9 tk'9 F'9 N'9 => ?_) (fun hv9 t'9 h'9 tk'9 F'9 N'9 => ?_)) | ((focus (refine rets_reads ?zzz (fun i9 hv9 hr9 hb9 t'9 h'9 tk'9 F'9 N'9 => ?_) (fun hv9 hr9 t'9 h'9 tk'9 F'9 N'9 => ?_) (fun hv9 hr9 t'9 h'9 tk'9 F'9 N'9 => ?_); (case zzz => first | decide | assumption | omega); (all_goals ((try simp only [Int.reduceToNat, loK, hiK] at hv9 hb9); (try (exfalso; omega)); (try simp only [Int.reduceToNat] at hv9))))))))
  k_with "mine held" => ((focus (refine rets_reads ?zzz (fun i9 hv9 hr9 hb9 t'9 h'9 tk'9 F'9 N'9 => ?_) (fun hv9 hr9 t'9 h'9 tk'9 F'9 N'9 => ?_) (fun hv9 hr9 t'9 h'9 tk'9 F'9 N'9 => ?_); (case zzz => first | decide | assumption | omega); (all_goals ((try simp only [Int.reduceToNat, loK, hiK] at hv9 hb9); (try (exfalso; omega)); (try simp only [Int.reduceToNat] at hv9))))))
  k_with "mine num" => ((focus (refine rets_rd ?zzz (fun i9 hv9 hb9 t'9 h'9 tk'9 F'9 N'9 => ?_) (fun i9 hv9 t'9 h'9 tk'9 F'9 N'9 => ?_) (fun hv9 t'9 h'9 tk'9 F'9 N'9 => ?_); (case zzz => first | assumption | omega); (all_goals ((try simp only [Int.reduceToNat, loK, hiK] at hv9 hb9); (try simp only [Int.reduceToNat] at hv9); (try (exfalso; exact rd3_nobool hv9)))))))
  k_with "m call ref" => (k_here; (first | ((with_reducible show wpAny _ _ (call (Value.ref 353) _) _ _ _); k_dflt (refine' (lrow_ok ?zzh0 ?zzh1 ?zzh2 ?zzh3 ?zzhb ?zzhi ?zzm1).use ?zzkB ?zzkF ?zzkX ?zzkN ?zzkT ?zzkf ?zzkd ?zzku ?_); (k_extra "mine rc"); (case zzm1 => k_extra "mine mem"); (case zzhi => assumption); (case zzhb => assumption); (case zzh0 => first | assumption | omega); (case zzh1 => first | assumption | omega); (case zzh2 => first | assumption | omega); (case zzh3 => first | assumption | omega); refine rets_row (fun i9 hv9 hb9 t'9 h'9 tk'9 F'9 N'9 => ?_) (fun hv9 t'9 h'9 tk'9 F'9 N'9 => ?_) (fun hv9 t'9 h'9 tk'9 F'9 N'9 => ?_)) | ((with_reducible show wpAny _ _ (call (Value.ref 360) _) _ _ _); k_dflt (refine' (lfar_ok ?zzh0 ?zzh1 ?zzhb ?zzhi ?zzm1).use ?zzkB ?zzkF ?zzkX ?zzkN ?zzkT ?zzkf ?zzkd ?zzku ?_); (k_extra "mine rc"); (case zzm1 => k_extra "mine mem"); (case zzhi => assumption); (case zzhb => assumption); (case zzh0 => first | assumption | omega); (case zzh1 => first | assumption | omega); (focus (refine rets_far (fun i9 hv9 hr9 hb9 t'9 h'9 tk'9 F'9 N'9 => ?_) (fun hv9 hr9 t'9 h'9 tk'9 F'9 N'9 => ?_) (fun hv9 hr9 t'9 h'9 tk'9 F'9 N'9 => ?_); (all_goals ((try (exfalso; omega)))))))))
  k_with "mine lrow" => (refine rets_row (fun i9 hv9 hb9 t'9 h'9 tk'9 F'9 N'9 => ?_) (fun hv9 t'9 h'9 tk'9 F'9 N'9 => ?_) (fun hv9 t'9 h'9 tk'9 F'9 N'9 => ?_))
  k_with "mine lfar" => ((focus (refine rets_far (fun i9 hv9 hr9 hb9 t'9 h'9 tk'9 F'9 N'9 => ?_) (fun hv9 hr9 t'9 h'9 tk'9 F'9 N'9 => ?_) (fun hv9 hr9 t'9 h'9 tk'9 F'9 N'9 => ?_); (all_goals ((try (exfalso; omega)))))))
  k_with "mine held" => (refine rets_reads4 (fun i9 hv9 t'9 h'9 tk'9 F'9 N'9 => ?_) (fun i9 hv9 t'9 h'9 tk'9 F'9 N'9 => ?_) (fun hv9 t'9 h'9 tk'9 F'9 N'9 => ?_) (fun hv9 t'9 h'9 tk'9 F'9 N'9 => ?_))
  k_with "mine held" => ((focus (refine rets_reads ?zzz (fun i9 hv9 hr9 hb9 t'9 h'9 tk'9 F'9 N'9 => ?_) (fun hv9 hr9 t'9 h'9 tk'9 F'9 N'9 => ?_) (fun hv9 hr9 t'9 h'9 tk'9 F'9 N'9 => ?_); (case zzz => decide); (all_goals ((try simp only [Int.reduceToNat, loK, hiK] at hv9 hb9); (try (exfalso; omega)); (try simp only [Int.reduceToNat] at hv9))))))
  k_with "m eval Call" => (refine Call_ ?_)
  k_with "m eval Name" => (k_here; (k_dflt first | (name_kind "cell"; refine' nameX_C (by k_asm) (by exact rfl) ?zzm ?zzd ?_ (by kernel_rfl) (by exact rfl) (by kernel_rfl); (case zzm => k_mem); (case zzd => k_asm); k_whole) | (k_extra "mine name")))
  k_with "mine room" => (first | (with_reducible exact room_le (by assumption) (by decide)) | ((try simp only [depth_under_make, depth_under_kw, depth_in1, depth_deeper, depth_caller, units_under_make, units_in1, units_deeper, Around.mark_units, units_caller]); (try dsimp only [ktrTop]); (first | (with_reducible exact room_le (by assumption) (by decide)) | (with_reducible exact room_le2 (by assumption) (by decide)) | (with_reducible exact room_le3 (by assumption) (by decide)) | (with_reducible exact room_le4 (by assumption) (by decide)))))
  k_with "k_room" => (k_extra "mine room")
  k_with "k_units" => (k_extra "mine room")
  trivial
section
theorem pieceE3 {w : World} {mean : ExcName → Option Value} {mg mb : Str → Option Value} {p : Program} {loose : List Str} {c1 c2 c3 c4 c5 c6 c7 c8 : Addr} {o1 o2 o3 o4 o5 o6 o7 o8 : Obj} {kind dd : Int} {tki td : Tok} {m : Str → Option Value} {y1 y2 y3 y4 : Addr} {p1 p2 p3 p4 : Obj}
   (dp un : Nat) (gd : Option (List Code)) (a : Addr) (A₀ : Around) (base h₀ : Heap) (L : Addr) (s : Shared) (Q : Flow → Shared → Prop) (E : Value → Shared → Prop) (B : Below A₀ base [] h₀) (X : (hd.heap_1 w.params).In h₀) (T : Top p loose mean mg mb h₀) (XB : (hd.heap_1 w.params).In base) (TB : Top p loose mean mg mb base) (hd : dp + 50 < recursionLimit) (hu : un + 900 < cLine) (l0 : 404 < c1) (l1 : c1 < c2) (l2 : c2 < c3) (l3 : c3 < c4) (l4 : c4 < c5) (l5 : c5 < c6) (l6 : c6 < c7) (l7 : c7 < c8) (e1 : @Ne Nat y1 c8) (e2 : @Ne Nat y2 c8) (e3 : @Ne Nat y3 c8) (e4 : @Ne Nat y4 c8)
   (d3 : o3.data = .cell (some (.int kind tki))) (d8 : o8.data = .cell (some (.int dd td)))
   (F : Fr h₀ L s.heap m)
   (N : News h₀ L s.heap [(y1, p1), (y2, p2), (y3, p3), (y4, p4), (c8, o8), (c7, o7), (c6, o6), (c5, o5), (c4, o4), (c3, o3), (c2, o2), (c1, o1), (404, tabObj #[])])
   (hret : ∀ (h' : Heap) (tk' : Nat) (q8 : Obj) (wv : Value), Fr h₀ L h' m →
     News h₀ L h' [(y1, p1), (y2, p2), (y3, p3), (y4, p4), (c8, q8), (c7, o7), (c6, o6), (c5, o5), (c4, o4), (c3, o3), (c2, o2), (c1, o1), (404, tabObj #[])] →
     q8.data = .cell (some wv) → ((kind = 0 ∧ ∃ bb, wv = .bool bb) ∨ (kind ≠ 0 ∧ ∃ t, wv = .int dd t)) → Q .next { s with heap := h', toks := tk' }) :
   wpAny (model PySem.Challenge.rw_ke0006_01.row.prog w) (ktrTop dp un gd (Str.ofString "law") lawScope L a (.ref 408) [(Str.ofString "without", c8), (Str.ofString "v", c7), (Str.ofString "table", c6), (Str.ofString "pos", c5), (Str.ofString "off", c4), (Str.ofString "kind", c3), (Str.ofString "flags", c2), (Str.ofString "data", c1)] []) (execs lawE3 (envX (Str.ofString "law") lawScope L a (.ref 408) [(Str.ofString "without", c8), (Str.ofString "v", c7), (Str.ofString "table", c6), (Str.ofString "pos", c5), (Str.ofString "off", c4), (Str.ofString "kind", c3), (Str.ofString "flags", c2), (Str.ofString "data", c1)])) Q E s := by
  revert X; k_fill; intro X
  replace l0 := ltN l0; replace l1 := ltN l1; replace l2 := ltN l2; replace l3 := ltN l3; replace l4 := ltN l4; replace l5 := ltN l5; replace l6 := ltN l6; replace l7 := ltN l7
  show wpAny _ _ (execs [_] _) _ _ _
  k_steps
  all_goals (first | exact hret _ _ _ _ (by assumption) (by assumption) (by assumption) (.inl ⟨by assumption, _, rfl⟩) | exact hret _ _ _ _ (by assumption) (by assumption) (by assumption) (.inr ⟨by assumption, _, rfl⟩))
end
section
theorem kw45 : True := by
  w_top off
  k_with "m call ref" => (k_here; (with_reducible show wpAny _ _ (call (Value.ref 381) _) _ _ _); k_dflt (refine' (lvec_ok ?zzh0 ?zzh1 ?zzhb ?zzhi ?zzm1).use ?zzkB ?zzkF ?zzkX ?zzkN ?zzkT ?zzkf ?zzkd ?zzku ?_); (k_extra "mine rc"); (case zzm1 => k_extra "mine mem"); (case zzhi => assumption); (case zzhb => assumption); (case zzh0 => omega); (case zzh1 => omega); (intro T' t' u' h' tk' F' N'))
  trivial
theorem pieceF {w : World} {mean : ExcName → Option Value} {mg mb : Str → Option Value} {p : Program} {loose : List Str} {c1 c2 c3 c4 c5 c6 c7 c8 : Addr} {o1 o2 o3 o4 o5 o6 o7 o8 : Obj} {lo : Addr} {b : Array UInt8} {ws : List Value} {co : Nat} {pos off : Int} {tp to : Tok} {m : Str → Option Value} {led : List (Addr × Obj)}
   (dp un : Nat) (gd : Option (List Code)) (a : Addr) (A₀ : Around) (base h₀ : Heap) (L : Addr) (s : Shared) (Q : Flow → Shared → Prop) (E : Value → Shared → Prop) (B : Below A₀ base [] h₀) (X : (hd.heap_1 w.params).In h₀) (T : Top p loose mean mg mb h₀) (XB : (hd.heap_1 w.params).In base) (TB : Top p loose mean mg mb base) (hd : dp + 50 < recursionLimit) (hu : un + 900 < cLine) (h0 : 0 ≤ pos) (h1 : pos < 48) (h2 : 0 ≤ off) (h3 : off < 24) (hi : IntsAre ws (ocs b)) (hb : b.size ≤ 64)
   (d4 : o4.data = .cell (some (.int off to))) (d5 : o5.data = .cell (some (.int pos tp)))
   (F : Fr h₀ L s.heap (fun z => if z = Str.ofString "octets" then some (.ref lo) else m z))
   (N : News h₀ L s.heap ((lo, listOf ws.toArray co) :: (c5, o5) :: (c4, o4) :: led))
   (hret : ∀ (h' : Heap) (tk' : Nat) (t u : Tok), Fr h₀ L h' (fun z => if z = Str.ofString "many" then some ((vlen b (pos + off)).val u) else if z = Str.ofString "first" then some ((vec b (pos + off)).val t) else if z = Str.ofString "octets" then some (.ref lo) else m z) →
     News h₀ L h' ((lo, listOf ws.toArray co) :: (c5, o5) :: (c4, o4) :: led) → Q .next { s with heap := h', toks := tk' }) :
   wpAny (model PySem.Challenge.rw_ke0006_01.row.prog w) (ktrTop dp un gd (Str.ofString "law") lawScope L a (.ref 408) [(Str.ofString "without", c8), (Str.ofString "v", c7), (Str.ofString "table", c6), (Str.ofString "pos", c5), (Str.ofString "off", c4), (Str.ofString "kind", c3), (Str.ofString "flags", c2), (Str.ofString "data", c1)] []) (execs lawF (envX (Str.ofString "law") lawScope L a (.ref 408) [(Str.ofString "without", c8), (Str.ofString "v", c7), (Str.ofString "table", c6), (Str.ofString "pos", c5), (Str.ofString "off", c4), (Str.ofString "kind", c3), (Str.ofString "flags", c2), (Str.ofString "data", c1)])) Q E s := by
  revert X; k_fill; intro X
  show wpAny _ _ (execs [_] _) _ _ _
  k_steps
  all_goals (first | exact hret _ _ _ _ (by assumption) (cb_drop (by assumption) (by kcj_in)))
end
section
def rowBody : List Stmt := match lawH with | .For _ _ b _ _ :: _ => b | _ => []
section
variable {prog : Program} {w : World} {A : Around} {E : Value → Shared → Prop} {s : Shared} {value slice : PySem.Expr} {h₀ : Heap} {L l : Addr} {news : List (Addr × Obj)} {k : Int} {u : Tok} {c : Nat} {rs : List Value} {v : Value} {Q : Value → Shared → Prop}
theorem rows_item (N : News h₀ L s.heap news) (hm : (l, listOf rs.toArray c) ∈ news) (h0 : 0 ≤ k) (h1 : k < 14) (hx : rs[k.toNat]? = some v) (h : Q v s)
    (hs : subscripted slice false (.ref l) (.int k u) = operate [.ref l, .int k u] (getItem (.ref l) (.int k u)) := by with_unfolding_all rfl) :
    wpAny (model prog w) A (subscriptTail value slice (.ref l) (.int k u)) Q E s := by
  have hl : s.heap.IsList l rs.toArray := ⟨_, N.get hm, rfl, _, rfl⟩
  exact item_litK hl h0 (by omega) hx h hs
end
theorem fr_dup {h₀ h : Heap} {L : Addr} {m : Str → Option Value} {x : Str} {a c : Option Value} (F : Fr h₀ L h (fun z => if z = x then a else if z = x then c else m z)) : Fr h₀ L h (fun z => if z = x then a else m z) := by
  have e : (fun z => if z = x then a else if z = x then c else m z) = fun z => if z = x then a else m z := by
    funext z; split <;> rfl
  rw [e] at F; exact F
theorem kw46 : True := by
  w_top off
  k_with "m subscriptTail" => (k_here; (with_reducible show wpAny _ _ (subscriptTail _ _ (Value.ref _) (Value.int _ _)) _ _ _); (with_unfolding_all (refine' rows_item ?zzN ?zzm ?zzh0 ?zzh1 ?zzhx ?_ ?zzhs); (case zzN => k_asm); (case zzm => k_extra "mine mem"); (case zzh0 => first | assumption | omega); (case zzh1 => first | assumption | omega); (case zzhx => assumption); (case zzhs => with_unfolding_all rfl); k_whole))
  k_with "m call ref" => (k_here; (with_reducible show wpAny _ _ (call (Value.ref 402) _) _ _ _); k_dflt (refine' (alike_ok).use ?zzkB ?zzkF ?zzkX ?zzkN ?zzkT ?zzkf ?zzkd ?zzku ?_); (k_extra "mine rc"); (intro t' h' tk' F' N'))
  trivial
theorem turnHn {w : World} {mean : ExcName → Option Value} {mg mb : Str → Option Value} {p : Program} {loose : List Str} {c1 c2 c3 c4 c5 c6 c7 c8 : Addr} {k : Int} {tk : Tok} {l r : Addr} {rs : List Value} {co : Nat} {a₀ : Ans} {t u : Tok} {m : Str → Option Value} {led : List (Addr × Obj)}
   (dp un : Nat) (gd : Option (List Code)) (a : Addr) (A₀ : Around) (base h₀ : Heap) (L : Addr) (s : Shared) (Q : Flow → Shared → Prop) (E : Value → Shared → Prop) (B : Below A₀ base [] h₀) (X : (hd.heap_1 w.params).In h₀) (T : Top p loose mean mg mb h₀) (XB : (hd.heap_1 w.params).In base) (TB : Top p loose mean mg mb base) (hd : dp + 50 < recursionLimit) (hu : un + 900 < cLine) (h0 : 0 ≤ k) (h1 : k < 14) (h5 : k ≠ 5) (hx : rs[k.toNat]? = some (.ref r)) (hr : (r, vecTup a₀ a₀ t u) ∈ led)
   (F : Fr h₀ L s.heap (fun z => if z = Str.ofString "k" then some (.int k tk) else if z = Str.ofString "rows" then some (.ref l) else m z))
   (N : News h₀ L s.heap ((l, listOf rs.toArray co) :: led))
   (hret : ∀ (h' : Heap) (tk' : Nat) (v1 v2 : Value), Fr h₀ L h' (fun z => if z = Str.ofString "due" then some v2 else if z = Str.ofString "told" then some v1 else if z = Str.ofString "k" then some (.int k tk) else if z = Str.ofString "rows" then some (.ref l) else m z) →
     News h₀ L h' ((l, listOf rs.toArray co) :: led) → Q .next { s with heap := h', toks := tk' }) :
   wpAny (model PySem.Challenge.rw_ke0006_01.row.prog w) (ktrTop dp un gd (Str.ofString "law") lawScope L a (.ref 408) [(Str.ofString "without", c8), (Str.ofString "v", c7), (Str.ofString "table", c6), (Str.ofString "pos", c5), (Str.ofString "off", c4), (Str.ofString "kind", c3), (Str.ofString "flags", c2), (Str.ofString "data", c1)] []) (execs rowBody (envX (Str.ofString "law") lawScope L a (.ref 408) [(Str.ofString "without", c8), (Str.ofString "v", c7), (Str.ofString "table", c6), (Str.ofString "pos", c5), (Str.ofString "off", c4), (Str.ofString "kind", c3), (Str.ofString "flags", c2), (Str.ofString "data", c1)])) Q E s := by
  revert X; k_fill; intro X
  show wpAny _ _ (execs [_, _, _] _) _ _ _
  k_steps
  all_goals (first | (exfalso; exact h5 (by assumption)) | exact hret _ _ _ _ (by assumption) (cb_drop (by assumption) (by kcj_in)) | exact hret _ _ _ _ (fr_dup (by assumption)) (cb_drop (by assumption) (by kcj_in)))
theorem kw47 : True := by
  w_top off
  k_with "m subscriptTail" => (k_here; (with_reducible show wpAny _ _ (subscriptTail _ _ (Value.ref _) (Value.int 5 _)) _ _ _); (with_unfolding_all (refine' rows_item ?zzN ?zzm ?zzh0 ?zzh1 ?zzhx ?_ ?zzhs); (case zzN => k_asm); (case zzm => k_extra "mine mem"); (case zzh0 => decide); (case zzh1 => decide); (case zzhx => assumption); (case zzhs => with_unfolding_all rfl); k_whole))
  k_with "m call ref" => (k_here; (with_reducible show wpAny _ _ (call (Value.ref 402) _) _ _ _); k_dflt (refine' (alike_int).use ?zzkB ?zzkF ?zzkX ?zzkN ?zzkT ?zzkf ?zzkd ?zzku ?_); (k_extra "mine rc"); (intro t' h' tk' F' N'))
  trivial
theorem turnH5i {w : World} {mean : ExcName → Option Value} {mg mb : Str → Option Value} {p : Program} {loose : List Str} {c1 c2 c3 c4 c5 c6 c7 c8 : Addr} {i : Int} {tk : Tok} {l r : Addr} {rs : List Value} {co : Nat} {t u : Tok} {m : Str → Option Value} {led : List (Addr × Obj)}
   (dp un : Nat) (gd : Option (List Code)) (a : Addr) (A₀ : Around) (base h₀ : Heap) (L : Addr) (s : Shared) (Q : Flow → Shared → Prop) (E : Value → Shared → Prop) (B : Below A₀ base [] h₀) (X : (hd.heap_1 w.params).In h₀) (T : Top p loose mean mg mb h₀) (XB : (hd.heap_1 w.params).In base) (TB : Top p loose mean mg mb base) (hd : dp + 50 < recursionLimit) (hu : un + 900 < cLine) (hi : i ≠ 0) (hx : rs[5]? = some (.ref r)) (hr : (r, ({ cls := .type "tuple", data := .seq #[.int i t, .int i u] } : Obj)) ∈ led)
   (F : Fr h₀ L s.heap (fun z => if z = Str.ofString "k" then some (.int 5 tk) else if z = Str.ofString "rows" then some (.ref l) else m z))
   (N : News h₀ L s.heap ((l, listOf rs.toArray co) :: led))
   (hret : ∀ (h' : Heap) (tk' : Nat) (v1 v2 : Value), Fr h₀ L h' (fun z => if z = Str.ofString "due" then some v2 else if z = Str.ofString "told" then some v1 else if z = Str.ofString "k" then some (.int 5 tk) else if z = Str.ofString "rows" then some (.ref l) else m z) →
     News h₀ L h' ((l, listOf rs.toArray co) :: led) → Q .next { s with heap := h', toks := tk' }) :
   wpAny (model PySem.Challenge.rw_ke0006_01.row.prog w) (ktrTop dp un gd (Str.ofString "law") lawScope L a (.ref 408) [(Str.ofString "without", c8), (Str.ofString "v", c7), (Str.ofString "table", c6), (Str.ofString "pos", c5), (Str.ofString "off", c4), (Str.ofString "kind", c3), (Str.ofString "flags", c2), (Str.ofString "data", c1)] []) (execs rowBody (envX (Str.ofString "law") lawScope L a (.ref 408) [(Str.ofString "without", c8), (Str.ofString "v", c7), (Str.ofString "table", c6), (Str.ofString "pos", c5), (Str.ofString "off", c4), (Str.ofString "kind", c3), (Str.ofString "flags", c2), (Str.ofString "data", c1)])) Q E s := by
  revert X; k_fill; intro X
  show wpAny _ _ (execs [_, _, _] _) _ _ _
  k_steps
  all_goals (first | (exfalso; exact hi (by assumption)) | exact hret _ _ _ _ (by assumption) (cb_drop (by assumption) (by kcj_in)) | exact hret _ _ _ _ (fr_dup (by assumption)) (cb_drop (by assumption) (by kcj_in)))
theorem turnH50 {w : World} {mean : ExcName → Option Value} {mg mb : Str → Option Value} {p : Program} {loose : List Str} {c1 c2 c3 c4 c5 c6 c7 c8 : Addr} {tk : Tok} {l r : Addr} {rs : List Value} {co : Nat} {t u : Tok} {m : Str → Option Value} {led : List (Addr × Obj)}
   (dp un : Nat) (gd : Option (List Code)) (a : Addr) (A₀ : Around) (base h₀ : Heap) (L : Addr) (s : Shared) (Q : Flow → Shared → Prop) (E : Value → Shared → Prop) (B : Below A₀ base [] h₀) (X : (hd.heap_1 w.params).In h₀) (T : Top p loose mean mg mb h₀) (XB : (hd.heap_1 w.params).In base) (TB : Top p loose mean mg mb base) (hd : dp + 50 < recursionLimit) (hu : un + 900 < cLine) (hx : rs[5]? = some (.ref r)) (hr : (r, ({ cls := .type "tuple", data := .seq #[.int 65535 t, .int 0 u] } : Obj)) ∈ led)
   (F : Fr h₀ L s.heap (fun z => if z = Str.ofString "k" then some (.int 5 tk) else if z = Str.ofString "rows" then some (.ref l) else m z))
   (N : News h₀ L s.heap ((l, listOf rs.toArray co) :: led))
   (hret : ∀ (h' : Heap) (tk' : Nat) (v1 v2 : Value), Fr h₀ L h' (fun z => if z = Str.ofString "due" then some v2 else if z = Str.ofString "told" then some v1 else if z = Str.ofString "k" then some (.int 5 tk) else if z = Str.ofString "rows" then some (.ref l) else m z) →
     News h₀ L h' ((l, listOf rs.toArray co) :: led) → Q .next { s with heap := h', toks := tk' }) :
   wpAny (model PySem.Challenge.rw_ke0006_01.row.prog w) (ktrTop dp un gd (Str.ofString "law") lawScope L a (.ref 408) [(Str.ofString "without", c8), (Str.ofString "v", c7), (Str.ofString "table", c6), (Str.ofString "pos", c5), (Str.ofString "off", c4), (Str.ofString "kind", c3), (Str.ofString "flags", c2), (Str.ofString "data", c1)] []) (execs rowBody (envX (Str.ofString "law") lawScope L a (.ref 408) [(Str.ofString "without", c8), (Str.ofString "v", c7), (Str.ofString "table", c6), (Str.ofString "pos", c5), (Str.ofString "off", c4), (Str.ofString "kind", c3), (Str.ofString "flags", c2), (Str.ofString "data", c1)])) Q E s := by
  revert X; k_fill; intro X
  show wpAny _ _ (execs [_, _, _] _) _ _ _
  k_steps
  all_goals (first | (exfalso; exact hi (by assumption)) | exact hret _ _ _ _ (by assumption) (cb_drop (by assumption) (by kcj_in)) | exact hret _ _ _ _ (fr_dup (by assumption)) (cb_drop (by assumption) (by kcj_in)))
theorem kw48 : True := by
  w_top off
  k_with "m call ref" => (k_here; (with_reducible show wpAny _ _ (call (Value.ref 402) _) _ _ _); k_dflt (refine' (alike_typ).use ?zzkB ?zzkF ?zzkX ?zzkN ?zzkT ?zzkf ?zzkd ?zzku ?_); (k_extra "mine rc"); (intro t' h' tk' F' N'))
  trivial
theorem turnH5t {w : World} {mean : ExcName → Option Value} {mg mb : Str → Option Value} {p : Program} {loose : List Str} {c1 c2 c3 c4 c5 c6 c7 c8 : Addr} {tk : Tok} {l r : Addr} {rs : List Value} {co : Nat} {t u : Tok} {m : Str → Option Value} {led : List (Addr × Obj)}
   (dp un : Nat) (gd : Option (List Code)) (a : Addr) (A₀ : Around) (base h₀ : Heap) (L : Addr) (s : Shared) (Q : Flow → Shared → Prop) (E : Value → Shared → Prop) (B : Below A₀ base [] h₀) (X : (hd.heap_1 w.params).In h₀) (T : Top p loose mean mg mb h₀) (XB : (hd.heap_1 w.params).In base) (TB : Top p loose mean mg mb base) (hd : dp + 50 < recursionLimit) (hu : un + 900 < cLine) (hx : rs[5]? = some (.ref r)) (hr : (r, ({ cls := .type "tuple", data := .seq #[.str (Str.ofString "type") t, .str (Str.ofString "type") u] } : Obj)) ∈ led)
   (F : Fr h₀ L s.heap (fun z => if z = Str.ofString "k" then some (.int 5 tk) else if z = Str.ofString "rows" then some (.ref l) else m z))
   (N : News h₀ L s.heap ((l, listOf rs.toArray co) :: led))
   (hret : ∀ (h' : Heap) (tk' : Nat) (v1 v2 : Value), Fr h₀ L h' (fun z => if z = Str.ofString "due" then some v2 else if z = Str.ofString "told" then some v1 else if z = Str.ofString "k" then some (.int 5 tk) else if z = Str.ofString "rows" then some (.ref l) else m z) →
     News h₀ L h' ((l, listOf rs.toArray co) :: led) → Q .next { s with heap := h', toks := tk' }) :
   wpAny (model PySem.Challenge.rw_ke0006_01.row.prog w) (ktrTop dp un gd (Str.ofString "law") lawScope L a (.ref 408) [(Str.ofString "without", c8), (Str.ofString "v", c7), (Str.ofString "table", c6), (Str.ofString "pos", c5), (Str.ofString "off", c4), (Str.ofString "kind", c3), (Str.ofString "flags", c2), (Str.ofString "data", c1)] []) (execs rowBody (envX (Str.ofString "law") lawScope L a (.ref 408) [(Str.ofString "without", c8), (Str.ofString "v", c7), (Str.ofString "table", c6), (Str.ofString "pos", c5), (Str.ofString "off", c4), (Str.ofString "kind", c3), (Str.ofString "flags", c2), (Str.ofString "data", c1)])) Q E s := by
  revert X; k_fill; intro X
  show wpAny _ _ (execs [_, _, _] _) _ _ _
  k_steps
  all_goals (first | (exfalso; exact hi (by assumption)) | exact hret _ _ _ _ (by assumption) (cb_drop (by assumption) (by kcj_in)) | exact hret _ _ _ _ (fr_dup (by assumption)) (cb_drop (by assumption) (by kcj_in)))
theorem kw49 : True := by
  w_top off
  k_with "m call ref" => (k_here; (with_reducible show wpAny _ _ (call (Value.ref 402) _) _ _ _); k_dflt (refine' (alike_fin).use ?zzkB ?zzkF ?zzkX ?zzkN ?zzkT ?zzkf ?zzkd ?zzku ?_); (k_extra "mine rc"); (intro t' h' tk' F' N'))
  trivial
theorem turnH5f {w : World} {mean : ExcName → Option Value} {mg mb : Str → Option Value} {p : Program} {loose : List Str} {c1 c2 c3 c4 c5 c6 c7 c8 : Addr} {tk : Tok} {l r : Addr} {rs : List Value} {co : Nat} {t u : Tok} {m : Str → Option Value} {led : List (Addr × Obj)}
   (dp un : Nat) (gd : Option (List Code)) (a : Addr) (A₀ : Around) (base h₀ : Heap) (L : Addr) (s : Shared) (Q : Flow → Shared → Prop) (E : Value → Shared → Prop) (B : Below A₀ base [] h₀) (X : (hd.heap_1 w.params).In h₀) (T : Top p loose mean mg mb h₀) (XB : (hd.heap_1 w.params).In base) (TB : Top p loose mean mg mb base) (hd : dp + 50 < recursionLimit) (hu : un + 900 < cLine) (hx : rs[5]? = some (.ref r)) (hr : (r, ({ cls := .type "tuple", data := .seq #[.str (Str.ofString "end") t, .str (Str.ofString "end") u] } : Obj)) ∈ led)
   (F : Fr h₀ L s.heap (fun z => if z = Str.ofString "k" then some (.int 5 tk) else if z = Str.ofString "rows" then some (.ref l) else m z))
   (N : News h₀ L s.heap ((l, listOf rs.toArray co) :: led))
   (hret : ∀ (h' : Heap) (tk' : Nat) (v1 v2 : Value), Fr h₀ L h' (fun z => if z = Str.ofString "due" then some v2 else if z = Str.ofString "told" then some v1 else if z = Str.ofString "k" then some (.int 5 tk) else if z = Str.ofString "rows" then some (.ref l) else m z) →
     News h₀ L h' ((l, listOf rs.toArray co) :: led) → Q .next { s with heap := h', toks := tk' }) :
   wpAny (model PySem.Challenge.rw_ke0006_01.row.prog w) (ktrTop dp un gd (Str.ofString "law") lawScope L a (.ref 408) [(Str.ofString "without", c8), (Str.ofString "v", c7), (Str.ofString "table", c6), (Str.ofString "pos", c5), (Str.ofString "off", c4), (Str.ofString "kind", c3), (Str.ofString "flags", c2), (Str.ofString "data", c1)] []) (execs rowBody (envX (Str.ofString "law") lawScope L a (.ref 408) [(Str.ofString "without", c8), (Str.ofString "v", c7), (Str.ofString "table", c6), (Str.ofString "pos", c5), (Str.ofString "off", c4), (Str.ofString "kind", c3), (Str.ofString "flags", c2), (Str.ofString "data", c1)])) Q E s := by
  revert X; k_fill; intro X
  show wpAny _ _ (execs [_, _, _] _) _ _ _
  k_steps
  all_goals (first | (exfalso; exact hi (by assumption)) | exact hret _ _ _ _ (by assumption) (cb_drop (by assumption) (by kcj_in)) | exact hret _ _ _ _ (fr_dup (by assumption)) (cb_drop (by assumption) (by kcj_in)))
end
theorem kw50 : True := by
  w_top off
  k_with_none
  k_with "k_ne" => ((try dsimp only); with_reducible first | exact Nat.ne_of_lt (by k_extra "mine lt") | exact Nat.ne_of_gt (by k_extra "mine lt") | fail)
  k_with "mine lt" => (first | assumption | (refine Nat.lt_trans (by assumption) ?_; k_extra "mine lt"))
  k_with "mine rc" => ((case zzkB => k_asm); (case zzkF => k_asm); (case zzkX => k_asm); (case zzkN => k_asm); (case zzkT => k_asm); (case zzkf => first | k_dflt exact rfl | assumption); (case zzkd => k_extra "mine room"); (case zzku => k_extra "mine room"))
  k_with "mine ra" => ((case zzkB => k_asm); (case zzkF => k_asm); (case zzkX => k_asm); (case zzkN => k_asm); (case zzkT => k_asm); (case zzkf => first | exact rfl | assumption); (case zzkd => ktr_room); (case zzku => ktr_units))
  k_with "mine name" => (first | (name_kind "local"; refine' nameX_L (by k_asm) (by exact rfl) ?_ (by kernel_rfl) (by kernel_rfl) (by kernel_rfl); k_whole) | (name_kind "globalImplicit"; refine' nameX_K (by k_asm) (by k_asm) (by k_asm) (by k_is) ?_ (by kernel_rfl) (by kernel_rfl) (by kernel_rfl); k_whole) | (name_kind "globalImplicit"; refine' nameX_B (by k_asm) (by k_asm) (by k_asm) (by k_is) (by boot_fast) (by decide) ?_ (by kernel_rfl) (by kernel_rfl) (by kernel_rfl); k_whole))
  k_with "m eval Name" => (k_here; k_dflt k_extra "mine name")
  k_with "k_room" => (ktr_room)
  k_with "k_units" => (ktr_units)
  k_with "m getMethod ref" => (k_here; (with_reducible show wpAny _ _ (getMethod (Value.ref _) (PySem.Str.ofString "unpack_from") _) _ _ _); (refine' method_unpack ?zzhP ?_; (case zzhP => exact (Frag.In.keeps (by k_asm) (Fr.keep (by k_asm))) _ _ (by assumption)); k_whole))
  k_with "m call builtin:_struct.Struct.unpack_from" => (k_here; ((focus (refine' unpack_call ?zzhh ?zzF ?zzN ?zzhP ?zzhd ?zzPK ?zzh0 ?zzh1 ?zzhb ?zzhw (fun hin9 T'9 t'9 h'9 tk'9 F'9 N'9 l19 => ?_) (fun hin9 h'9 tk'9 e'9 x'9 => ?_); (case zzhh => rfl); (case zzF => k_asm); (case zzN => k_asm); (case zzhP => exact (Frag.In.keeps (by k_asm) (Fr.keep (by k_asm))) _ _ (by assumption)); (case zzhd => exact News.get (by k_asm) (by k_mem)); (case zzPK => assumption); (case zzh0 => assumption); (case zzh1 => omega); (case zzhb => assumption); (case zzhw => assumption); (all_goals ((try k_lt l19))); rotate_left))))
  k_with "m leaving ref" => (k_here; (first | (refine' leave_onX rfl ?zzk1 ?zzk2 ?zzk3 ?zzk4 ?_; (case zzk3 => assumption); (case zzk1 => assumption); (case zzk4 => assumption); (case zzk2 => assumption); k_whole; intro h' R' U'; (try dsimp only at R' U' ⊢)) | (refine' leave_newN ?zzk1 ?zzk0 ?zzk2 ?zzk3 ?_; (case zzk0 => assumption); (case zzk1 => assumption); (case zzk2 => assumption); (case zzk3 => k_asm); k_whole; intro h' R' U'; (try dsimp only at R' U' ⊢)) | (refine' leave_raiseN ?zzk1 ?zzk0 ?zzk2 ?zzk3 ?_; (case zzk0 => first | assumption | (exact Heap.MadeExc.of (by assumption))); (case zzk1 => assumption); (case zzk2 => assumption); (case zzk3 => k_asm); k_whole; intro h' R' U'; (try dsimp only at R' U' ⊢))))
  k_with "m getAttr ref" => (k_here; (first | (refine' cls_val ?zzk1 ?zzk2 ?zzk3 ?zzk4 ?zzk5 ?zzk6 ?_; (case zzk1 => k_asm); (case zzk2 => k_asm); (case zzk3 => exact Flag.ty (by assumption)); (case zzk4 => exact Flag.rd (by assumption)); (case zzk5 => first | (exact Flag.mn (by assumption)) | (exact Flag.mx (by assumption)) | (exact Flag.pkt (by assumption)) | assumption); (case zzk6 => rfl); k_whole) | (refine' cls_pyt ?zzX ?zzr ?zza ?zzb ?zzT ?_; (case zza => exact Flag.pyt (by assumption)); (case zzX => exact (Frag.In.keeps (by k_asm) (Fr.keep (by k_asm)))); (case zzr => exact Flag.rd (by assumption)); (case zzb => exact Flag.pym (by assumption)); (case zzT => first | exact FF.mt_int | exact FF.mt_bool | assumption); k_whole)))
  k_with "m compareOp LtE bool int" => (refine le_bool_int ?_)
  k_with "m compareOp LtE int bool" => (refine le_int_bool ?_)
  k_with "m call ref" => (k_here; (first | ((with_reducible show wpAny _ _ (call (Value.ref 220) [Value.int _ _, Value.ref 199]) _ _ _); (focus (k_dflt (refine' (enforce_U ?zzh0 ?zzh1).use ?zzkB ?zzkF ?zzkX ?zzkN ?zzkT ?zzkf ?zzkd ?zzku ⟨(fun hc9 t'9 h'9 tk'9 F'9 N'9 => ?_), (fun hc9 e'9 g'9 h'9 tk'9 FG'9 U'9 R'9 => ?_)⟩); (k_extra "mine ra"); (case zzh0 => first | assumption | omega); (case zzh1 => first | assumption | omega); (all_goals ((try (exfalso; omega)))); rotate_left))) | ((with_reducible show wpAny _ _ (call (Value.ref 220) [Value.int _ _, Value.ref 211]) _ _ _); (focus (k_dflt (refine' (enforce_V ?zzh0 ?zzh1).use ?zzkB ?zzkF ?zzkX ?zzkN ?zzkT ?zzkf ?zzkd ?zzku ⟨(fun hc9 t'9 h'9 tk'9 F'9 N'9 => ?_), (fun hc9 e'9 g'9 h'9 tk'9 FG'9 U'9 R'9 => ?_)⟩); (k_extra "mine ra"); (case zzh0 => first | assumption | omega); (case zzh1 => first | assumption | omega); (all_goals ((try (exfalso; omega)))); rotate_left))) | ((with_reducible show wpAny _ _ (call (Value.ref 220) [Value.int _ _, Value.ref _]) _ _ _); (focus (k_dflt (refine' (enforce_k ?zzhK ?zzhk ?zzh0 ?zzh1).use ?zzkB ?zzkF ?zzkX ?zzkN ?zzkT ?zzkf ?zzkd ?zzku ⟨(fun hc9 t'9 h'9 tk'9 F'9 N'9 => ?_), (fun hc9 e'9 g'9 h'9 tk'9 FG'9 U'9 R'9 => ?_)⟩; (case zzhK => assumption); (case zzhk => assumption)); (k_extra "mine ra"); (case zzh0 => first | assumption | omega); (case zzh1 => first | assumption | omega); (all_goals ((try (exfalso; omega)))); rotate_left)))))
  k_with "m getMethod ref" => (k_here; (with_reducible show wpAny _ _ (getMethod (Value.ref _) (PySem.Str.ofString "py_type") _) _ _ _); (refine' method_of_cls ?zzF ?zzX ?zzg ?_; (case zzF => k_asm); (case zzX => k_asm); (case zzg => exact Flag.sp (by assumption)); k_whole))
  k_with "m call ref" => (k_here; (first | ((with_reducible show wpAny _ _ (call (Value.ref 227) [Value.ref 46, Value.ref _, Value.int _ _]) _ _ _); k_dflt (refine' (get_encode_U ?zzh0 ?zzh1 ?zzhb ?zzhm).use ?zzkB ?zzkF ?zzkX ?zzkN ?zzkT ?zzkf ?zzkd ?zzku ?_); (k_extra "mine rc"); (case zzhm => k_extra "mine mem"); (case zzh0 => first | assumption | omega); (case zzh1 => first | assumption | omega); (case zzhb => assumption); (first | ((focus (refine saysRet_bool (fun i9 hv9 t'9 h'9 tk'9 F'9 N'9 => ?_) (fun hv9 e'9 g'9 h'9 tk'9 FG'9 U'9 R'9 => ?_); rotate_left))) | ((focus (refine saysRet_int ?zzhk ?zzhn (fun i9 hv9 hi9 t'9 h'9 tk'9 F'9 N'9 => ?_) (fun hv9 e'9 g'9 h'9 tk'9 FG'9 U'9 R'9 => ?_); (case zzhk => first | assumption | omega | decide); (case zzhn => first | assumption | omega); (all_goals ((try simp only [loK, hiK] at hi9))); rotate_left))))) | ((with_reducible show wpAny _ _ (call (Value.ref 227) [Value.ref _, Value.ref _, Value.int _ _]) _ _ _); k_dflt (refine' (get_encode ?zzhP ?zzPK ?zzh0 ?zzh1 ?zzhb ?zzhw ?zzhm).use ?zzkB ?zzkF ?zzkX ?zzkN ?zzkT ?zzkf ?zzkd ?zzku ?_; (case zzhP => assumption); (case zzPK => assumption); (case zzhw => assumption)); (k_extra "mine rc"); (case zzhm => k_extra "mine mem"); (case zzh0 => first | assumption | omega); (case zzh1 => first | assumption | omega); (case zzhb => assumption); (first | ((focus (refine saysRet_bool (fun i9 hv9 t'9 h'9 tk'9 F'9 N'9 => ?_) (fun hv9 e'9 g'9 h'9 tk'9 FG'9 U'9 R'9 => ?_); rotate_left))) | ((focus (refine saysRet_int ?zzhk ?zzhn (fun i9 hv9 hi9 t'9 h'9 tk'9 F'9 N'9 => ?_) (fun hv9 e'9 g'9 h'9 tk'9 FG'9 U'9 R'9 => ?_); (case zzhk => first | assumption | omega | decide); (case zzhn => first | assumption | omega); (all_goals ((try simp only [loK, hiK] at hi9))); rotate_left)))))))
  k_with "m call ref" => (k_here; (first | ((with_reducible show wpAny _ _ (call (Value.ref 291) [Value.ref _, Value.ref 187, Value.int _ _]) _ _ _); k_dflt (refine' (get_S ?zzh0 ?zzh1 ?zzhb ?zzm1 ?zzm2 ?zzm3).use ?zzkB ?zzkF ?zzkX ?zzkN ?zzkT ?zzkf ?zzkd ?zzku ?_); (k_extra "mine rc"); (case zzm1 => k_extra "mine mem"); (case zzm2 => k_extra "mine mem"); (case zzm3 => k_extra "mine mem"); (case zzh0 => first | assumption | omega); (case zzh1 => first | assumption | omega); (case zzhb => assumption); (focus (refine saysRet_reads (by decide) (fun i9 hv9 hr9 hi9 t'9 h'9 tk'9 F'9 N'9 => ?_) (fun hv9 hr9 e'9 g'9 h'9 tk'9 FG'9 U'9 R'9 => ?_) (fun hv9 hr9 e'9 g'9 h'9 tk'9 FG'9 U'9 R'9 => ?_); (all_goals ((try simp only [loK, hiK] at hi9); (try (exfalso; omega))))))) | ((with_reducible show wpAny _ _ (call (Value.ref 291) [Value.ref _, Value.ref 199, Value.int _ _]) _ _ _); k_dflt (refine' (get_U ?zzh0 ?zzh1 ?zzhb ?zzm1 ?zzm2 ?zzm3).use ?zzkB ?zzkF ?zzkX ?zzkN ?zzkT ?zzkf ?zzkd ?zzku ?_); (k_extra "mine rc"); (case zzm1 => k_extra "mine mem"); (case zzm2 => k_extra "mine mem"); (case zzm3 => k_extra "mine mem"); (case zzh0 => first | assumption | omega); (case zzh1 => first | assumption | omega); (case zzhb => assumption); (focus (refine saysRet_reads (by decide) (fun i9 hv9 hr9 hi9 t'9 h'9 tk'9 F'9 N'9 => ?_) (fun hv9 hr9 e'9 g'9 h'9 tk'9 FG'9 U'9 R'9 => ?_) (fun hv9 hr9 e'9 g'9 h'9 tk'9 FG'9 U'9 R'9 => ?_); (all_goals ((try simp only [loK, hiK] at hi9); (try (exfalso; omega))))))) | ((with_reducible show wpAny _ _ (call (Value.ref 291) [Value.ref _, Value.ref 211, Value.int _ _]) _ _ _); k_dflt (refine' (get_V ?zzh0 ?zzh1 ?zzhb ?zzm1 ?zzm2 ?zzm3).use ?zzkB ?zzkF ?zzkX ?zzkN ?zzkT ?zzkf ?zzkd ?zzku ?_); (k_extra "mine rc"); (case zzm1 => k_extra "mine mem"); (case zzm2 => k_extra "mine mem"); (case zzm3 => k_extra "mine mem"); (case zzh0 => first | assumption | omega); (case zzh1 => first | assumption | omega); (case zzhb => assumption); (focus (refine saysRet_reads (by decide) (fun i9 hv9 hr9 hi9 t'9 h'9 tk'9 F'9 N'9 => ?_) (fun hv9 hr9 e'9 g'9 h'9 tk'9 FG'9 U'9 R'9 => ?_) (fun hv9 hr9 e'9 g'9 h'9 tk'9 FG'9 U'9 R'9 => ?_); (all_goals ((try simp only [loK, hiK] at hi9); (try (exfalso; omega)))))))))
  k_with "mine end" => ((rename SaysRet _ _ _ _ _ _ _ _ _ _ => hR); (first | (exact hR.int (by k_extra "mine eq") _ _ _ (by assumption) (by first | assumption | exact cb_drop (by assumption) (by kcj_in))) | (exact hR.bytes (by k_extra "mine eq") _ _ _ (by assumption) (by first | assumption | exact cb_drop (by assumption) (by kcj_in))) | (exact hR.bool (by k_extra "mine eq") 0 _ _ (by assumption) (by first | assumption | exact cb_drop (by assumption) (by kcj_in))) | (exact hR.typ (by k_extra "mine eq") _ _ _ _ (by assumption) (by assumption) (by first | assumption | exact raisedSN_weak (by assumption) (by kcj_in))) | (exact hR.fin (by k_extra "mine eq") _ _ _ _ (by assumption) (by assumption) (by first | assumption | exact raisedSN_weak (by assumption) (by kcj_in)))))
  k_with "m call ref" => (k_here; (with_reducible show wpAny _ _ (call (Value.ref 249) [Value.ref _, Value.int _ _]) _ _ _); k_dflt (refine' (offset_ok ?zzh0 ?zzh1 ?zzh2 ?zzh3 ?zzhb ?zzm1 ?zzm2 ?zzm3).use ?zzkB ?zzkF ?zzkX ?zzkN ?zzkT ?zzkf ?zzkd ?zzku ?_); (k_extra "mine rc"); (case zzm1 => k_extra "mine mem"); (case zzm2 => k_extra "mine mem"); (case zzm3 => k_extra "mine mem"); (case zzh0 => first | assumption | omega); (case zzh1 => first | assumption | omega); (case zzh2 => first | assumption | omega); (case zzh3 => first | assumption | omega); (case zzhb => assumption); refine saysRet_row (fun i9 hv9 hi9 t'9 h'9 tk'9 F'9 N'9 => ?_) (fun hv9 e'9 g'9 h'9 tk'9 FG'9 U'9 R'9 => ?_) (fun hv9 e'9 g'9 h'9 tk'9 FG'9 U'9 R'9 => ?_))
  k_with "m call ref" => (k_here; (first | ((with_reducible show wpAny _ _ (call (Value.ref 220) [Value.int _ _, Value.ref 199]) _ _ _); k_dflt (refine' (enforce_U ?zzh0 ?zzh1).use ?zzkB ?zzkF ?zzkX ?zzkN ?zzkT ?zzkf ?zzkd ?zzku ?_); (k_extra "mine rc"); (case zzh0 => first | assumption | omega); (case zzh1 => first | assumption | omega); (focus (refine ⟨(fun hc9 t'9 h'9 tk'9 F'9 N'9 => ?_), (fun hc9 e'9 g'9 h'9 tk'9 FG'9 U'9 R'9 => ?_)⟩; (all_goals ((try (exfalso; omega)))); rotate_left))) | ((with_reducible show wpAny _ _ (call (Value.ref 220) [Value.int _ _, Value.ref 211]) _ _ _); k_dflt (refine' (enforce_V ?zzh0 ?zzh1).use ?zzkB ?zzkF ?zzkX ?zzkN ?zzkT ?zzkf ?zzkd ?zzku ?_); (k_extra "mine rc"); (case zzh0 => first | assumption | omega); (case zzh1 => first | assumption | omega); (focus (refine ⟨(fun hc9 t'9 h'9 tk'9 F'9 N'9 => ?_), (fun hc9 e'9 g'9 h'9 tk'9 FG'9 U'9 R'9 => ?_)⟩; (all_goals ((try (exfalso; omega)))); rotate_left))) | ((with_reducible show wpAny _ _ (call (Value.ref 220) [Value.int _ _, Value.ref _]) _ _ _); k_dflt (refine' (enforce_k ?zzhK ?zzhk ?zzh0 ?zzh1).use ?zzkB ?zzkF ?zzkX ?zzkN ?zzkT ?zzkf ?zzkd ?zzku ?_; (case zzhK => assumption); (case zzhk => first | assumption | omega)); (k_extra "mine rc"); (case zzh0 => first | assumption | omega); (case zzh1 => first | assumption | omega); (focus (refine ⟨(fun hc9 t'9 h'9 tk'9 F'9 N'9 => ?_), (fun hc9 e'9 g'9 h'9 tk'9 FG'9 U'9 R'9 => ?_)⟩; (all_goals ((try (exfalso; omega)))); rotate_left)))))
  k_with "m call ref" => (k_here; (first | ((with_reducible show wpAny _ _ (call (Value.ref 291) [Value.ref _, Value.ref 187, Value.int _ _]) _ _ _); fail) | ((with_reducible show wpAny _ _ (call (Value.ref 291) [Value.ref _, Value.ref 199, Value.int _ _]) _ _ _); fail) | ((with_reducible show wpAny _ _ (call (Value.ref 291) [Value.ref _, Value.ref 211, Value.int _ _]) _ _ _); fail) | ((with_reducible show wpAny _ _ (call (Value.ref 291) [Value.ref _, Value.ref _, Value.int _ _]) _ _ _); k_dflt (refine' (get_okN ?zzhK ?zzhk0 ?zzhw ?zzh0 ?zzh1 ?zzhb ?zzm1 ?zzm2 ?zzm3).use ?zzkB ?zzkF ?zzkX ?zzkN ?zzkT ?zzkf ?zzkd ?zzku ?_; (case zzhK => assumption); (case zzhk0 => assumption); (case zzhw => exact wdK_le _)); (k_extra "mine rc"); (case zzm1 => k_extra "mine mem"); (case zzm2 => k_extra "mine mem"); (case zzm3 => k_extra "mine mem"); (case zzh0 => first | assumption | omega); (case zzh1 => first | assumption | omega); (case zzhb => assumption); (focus (refine saysRet_reads (by assumption) (fun i9 hv9 hr9 hi9 t'9 h'9 tk'9 F'9 N'9 => ?_) (fun hv9 hr9 e'9 g'9 h'9 tk'9 FG'9 U'9 R'9 => ?_) (fun hv9 hr9 e'9 g'9 h'9 tk'9 FG'9 U'9 R'9 => ?_); (all_goals ((try (exfalso; omega))))))) | ((with_reducible show wpAny _ _ (call (Value.ref 291) [Value.ref _, Value.ref _, Value.int _ _]) _ _ _); k_dflt (refine' (get_ok0 ?zzhK ?zzh0 ?zzh1 ?zzhb ?zzm1 ?zzm2 ?zzm3).use ?zzkB ?zzkF ?zzkX ?zzkN ?zzkT ?zzkf ?zzkd ?zzku ?_; (case zzhK => assumption)); (k_extra "mine rc"); (case zzm1 => k_extra "mine mem"); (case zzm2 => k_extra "mine mem"); (case zzm3 => k_extra "mine mem"); (case zzh0 => first | assumption | omega); (case zzh1 => first | assumption | omega); (case zzhb => assumption); (focus (refine saysRet_reads0 (fun i9 hv9 hr9 t'9 h'9 tk'9 F'9 N'9 => ?_) (fun hv9 hr9 e'9 g'9 h'9 tk'9 FG'9 U'9 R'9 => ?_) (fun hv9 hr9 e'9 g'9 h'9 tk'9 FG'9 U'9 R'9 => ?_); (all_goals ((try (exfalso; omega)))))))))
  k_with "m call ref" => (k_here; (first | ((with_reducible show wpAny _ _ (call (Value.ref 220) [Value.bool _, Value.ref 61]) _ _ _); k_dflt (refine' (enforce_bb).use ?zzkB ?zzkF ?zzkX ?zzkN ?zzkT ?zzkf ?zzkd ?zzku ⟨?_, fun hc => (hc trivial).elim⟩); (k_extra "mine rc"); (intro hc t' h' tk' F' N')) | ((with_reducible show wpAny _ _ (call (Value.ref 220) [Value.int _ _, Value.ref 61]) _ _ _); k_dflt (refine' (enforce_bi ?zzhn).use ?zzkB ?zzkF ?zzkX ?zzkN ?zzkT ?zzkf ?zzkd ?zzku ⟨fun hc => hc.elim, ?_⟩; (case zzhn => assumption)); (k_extra "mine rc"); (intro hc e' g' h' tk' FG' U' R'))))
  k_with "mine mem" => (with_reducible first | assumption | exact List.mem_cons_self | (refine List.mem_cons_of_mem _ ?_; k_extra "mine mem"))
  k_with "k_mem" => (k_extra "mine mem")
  k_with "mine eq" => (assumption)
  k_with "m call ref" => (k_here; (with_reducible show wpAny _ _ (call (Value.ref 320) _) _ _ _); k_dflt (refine' (kinds_ok).use ?zzkB ?zzkF ?zzkX ?zzkN ?zzkT ?zzkf ?zzkd ?zzku ?_); (k_extra "mine rc"); intro l' D' h' tk' F' N' K')
  k_with "m subscriptTail" => (k_here; (with_reducible show wpAny _ _ (subscriptTail _ _ (Value.ref _) (Value.int _ _)) _ _ _); (with_unfolding_all (refine' kinds_item ?zzN ?zzm ?zzK ?zzh0 ?zzh1 ?zzhW ?_ ?zzhs); (case zzN => k_asm); (case zzm => k_extra "mine mem"); (case zzK => k_asm); (case zzh0 => first | assumption | omega); (case zzh1 => first | assumption | omega); (case zzhW => first | assumption | exact rfl); (case zzhs => with_unfolding_all rfl); k_whole); intro a' b' c' N')
  k_with "m UnrEnd" => (k_dflt (refine' unrEnd_tail ?zzF ?zzN ?zzoff ?_; (case zzF => k_asm); (case zzN => k_asm); (case zzoff => exact fun p hp => Nat.ne_of_lt (ktn_ltOf (by assumption) p hp)); k_whole))
  k_with "m call ref" => (k_here; (with_reducible show wpAny _ _ (call (Value.ref 339) _) _ _ _); k_dflt (refine' (number_ok ?zzh0 ?zzh1 ?zzhk0 ?zzhk1 ?zzhb ?zzhi ?zzm1).use ?zzkB ?zzkF ?zzkX ?zzkN ?zzkT ?zzkf ?zzkd ?zzku ?_); (k_extra "mine rc"); (case zzm1 => k_extra "mine mem"); (case zzhi => assumption); (case zzhb => assumption); (case zzh0 => first | assumption | omega); (case zzh1 => first | assumption | omega); (case zzhk0 => first | assumption | omega); (case zzhk1 => first | assumption | omega); (focus (refine rets_rd ?zzz (fun i9 hv9 hb9 t'9 h'9 tk'9 F'9 N'9 => ?_) (fun i9 hv9 t'9 h'9 tk'9 F'9 N'9 => ?_) (fun hv9 t'9 h'9 tk'9 F'9 N'9 => ?_); (case zzz => first | assumption | omega); (all_goals ((try simp only [Int.reduceToNat, loK, hiK] at hv9 hb9); (try simp only [Int.reduceToNat] at hv9); (try (exfalso; exact rd3_nobool hv9)))))))
  k_with "mine end" => ((rename Rets _ _ _ _ _ _ _ => hR); (first | (exact rets_int hR (by k_extra "mine eq") _ _ _ (by assumption) (by first | assumption | exact cb_drop (by assumption) (by kcj_in))) | (exact rets_typ hR (by k_extra "mine eq") _ _ _ (by assumption) (by first | assumption | exact cb_drop (by assumption) (by kcj_in))) | (exact rets_fin hR (by k_extra "mine eq") _ _ _ (by assumption) (by first | assumption | exact cb_drop (by assumption) (by kcj_in))) | (exact rets_bytes hR (by k_extra "mine eq") _ _ _ (by assumption) (by first | assumption | exact cb_drop (by assumption) (by kcj_in))) | (exact rets_bool hR (by k_extra "mine eq") 0 _ _ (by assumption) (by first | assumption | exact cb_drop (by assumption) (by kcj_in)))))
  k_with "m call ref" => (k_here; (with_reducible show wpAny _ _ (call (Value.ref 346) _) _ _ _); k_dflt (refine' (held_ok ?zzh0 ?zzh1 ?zzhk0 ?zzhk1 ?zzhb ?zzhi ?zzm1).use ?zzkB ?zzkF ?zzkX ?zzkN ?zzkT ?zzkf ?zzkd ?zzku ?_); (k_extra "mine rc"); (case zzm1 => k_extra "mine mem"); (case zzhi => assumption); (case zzhb => assumption); (case zzh0 => first | assumption | omega); (case zzh1 => first | assumption | omega); (case zzhk0 => first | assumption | omega); (case zzhk1 => first | assumption | omega); (first | ((focus (refine rets_reads ?zzz (fun i9 hv9 hr9 hb9 t'9 h'9 tk'9 F'9 N'9 => ?_) (fun hv9 hr9 t'9 h'9 tk'9 F'9 N'9 => ?_) (fun hv9 hr9 t'9 h'9 tk'9 F'9 N'9 => ?_); (case zzz => decide); (all_goals ((try simp only [Int.reduceToNat, loK, hiK] at hv9 hb9); (try (exfalso; omega)); (try simp only [Int.reduceToNat] at hv9)))))) | (refine rets_reads4 (fun i9 hv9 t'9 h'9 tk'9 F'9 N'9 => ?_) (fun i9 hv9 t'9 h'9 tk'9 F'9 N'9 => ?_) (fun hv9 t'9 h'9 tk'9 F'9 N'9 => ?_) (fun hv9 t'9 h'9 tk'9 F'9 N'9 => ?_)) | ((focus (refine rets_reads ?zzz (fun i9 hv9 hr9 hb9 t'9 h'9 tk'9 F'9 N'9 => ?_) (fun hv9 hr9 t'9 h'9 tk'9 F'9 N'9 => ?_) (fun hv9 hr9 t'9 h'9 tk'9 F'9 N'9 => ?_); (case zzz => first | decide | assumption | omega); (all_goals ((try simp only [Int.reduceToNat, loK, hiK] at hv9 hb9); (try (exfalso; omega)); (try simp only [Int.reduceToNat] at hv9))))))))
  k_with "mine held" => ((focus (refine rets_reads ?zzz (fun i9 hv9 hr9 hb9 t'9 h'9 tk'9 F'9 N'9 => ?_) (fun hv9 hr9 t'9 h'9 tk'9 F'9 N'9 => ?_) (fun hv9 hr9 t'9 h'9 tk'9 F'9 N'9 => ?_); (case zzz => first | decide | assumption | omega); (all_goals ((try simp only [Int.reduceToNat, loK, hiK] at hv9 hb9); (try (exfalso; omega)); (try simp only [Int.reduceToNat] at hv9))))))
  k_with "mine num" => ((focus (refine rets_rd ?zzz (fun i9 hv9 hb9 t'9 h'9 tk'9 F'9 N'9 => ?_) (fun i9 hv9 t'9 h'9 tk'9 F'9 N'9 => ?_) (fun hv9 t'9 h'9 tk'9 F'9 N'9 => ?_); (case zzz => first | assumption | omega); (all_goals ((try simp only [Int.reduceToNat, loK, hiK] at hv9 hb9); (try simp only [Int.reduceToNat] at hv9); (try (exfalso; exact rd3_nobool hv9)))))))
  k_with "m call ref" => (k_here; (first | ((with_reducible show wpAny _ _ (call (Value.ref 353) _) _ _ _); k_dflt (refine' (lrow_ok ?zzh0 ?zzh1 ?zzh2 ?zzh3 ?zzhb ?zzhi ?zzm1).use ?zzkB ?zzkF ?zzkX ?zzkN ?zzkT ?zzkf ?zzkd ?zzku ?_); (k_extra "mine rc"); (case zzm1 => k_extra "mine mem"); (case zzhi => assumption); (case zzhb => assumption); (case zzh0 => first | assumption | omega); (case zzh1 => first | assumption | omega); (case zzh2 => first | assumption | omega); (case zzh3 => first | assumption | omega); refine rets_row (fun i9 hv9 hb9 t'9 h'9 tk'9 F'9 N'9 => ?_) (fun hv9 t'9 h'9 tk'9 F'9 N'9 => ?_) (fun hv9 t'9 h'9 tk'9 F'9 N'9 => ?_)) | ((with_reducible show wpAny _ _ (call (Value.ref 360) _) _ _ _); k_dflt (refine' (lfar_ok ?zzh0 ?zzh1 ?zzhb ?zzhi ?zzm1).use ?zzkB ?zzkF ?zzkX ?zzkN ?zzkT ?zzkf ?zzkd ?zzku ?_); (k_extra "mine rc"); (case zzm1 => k_extra "mine mem"); (case zzhi => assumption); (case zzhb => assumption); (case zzh0 => first | assumption | omega); (case zzh1 => first | assumption | omega); (focus (refine rets_far (fun i9 hv9 hr9 hb9 t'9 h'9 tk'9 F'9 N'9 => ?_) (fun hv9 hr9 t'9 h'9 tk'9 F'9 N'9 => ?_) (fun hv9 hr9 t'9 h'9 tk'9 F'9 N'9 => ?_); (all_goals ((try (exfalso; omega)))))))))
  k_with "mine lrow" => (refine rets_row (fun i9 hv9 hb9 t'9 h'9 tk'9 F'9 N'9 => ?_) (fun hv9 t'9 h'9 tk'9 F'9 N'9 => ?_) (fun hv9 t'9 h'9 tk'9 F'9 N'9 => ?_))
  k_with "mine lfar" => ((focus (refine rets_far (fun i9 hv9 hr9 hb9 t'9 h'9 tk'9 F'9 N'9 => ?_) (fun hv9 hr9 t'9 h'9 tk'9 F'9 N'9 => ?_) (fun hv9 hr9 t'9 h'9 tk'9 F'9 N'9 => ?_); (all_goals ((try (exfalso; omega)))))))
  k_with "mine held" => (refine rets_reads4 (fun i9 hv9 t'9 h'9 tk'9 F'9 N'9 => ?_) (fun i9 hv9 t'9 h'9 tk'9 F'9 N'9 => ?_) (fun hv9 t'9 h'9 tk'9 F'9 N'9 => ?_) (fun hv9 t'9 h'9 tk'9 F'9 N'9 => ?_))
  k_with "mine held" => ((focus (refine rets_reads ?zzz (fun i9 hv9 hr9 hb9 t'9 h'9 tk'9 F'9 N'9 => ?_) (fun hv9 hr9 t'9 h'9 tk'9 F'9 N'9 => ?_) (fun hv9 hr9 t'9 h'9 tk'9 F'9 N'9 => ?_); (case zzz => decide); (all_goals ((try simp only [Int.reduceToNat, loK, hiK] at hv9 hb9); (try (exfalso; omega)); (try simp only [Int.reduceToNat] at hv9))))))
  k_with "m eval Call" => (refine Call_ ?_)
  k_with "m eval Name" => (k_here; (k_dflt first | (name_kind "cell"; refine' nameX_C (by k_asm) (by exact rfl) ?zzm ?zzd ?_ (by kernel_rfl) (by exact rfl) (by kernel_rfl); (case zzm => k_mem); (case zzd => k_asm); k_whole) | (k_extra "mine name")))
  k_with "mine room" => (first | (with_reducible exact room_le (by assumption) (by decide)) | ((try simp only [depth_under_make, depth_under_kw, depth_in1, depth_deeper, depth_caller, units_under_make, units_in1, units_deeper, Around.mark_units, units_caller]); (try dsimp only [ktrTop]); (first | (with_reducible exact room_le (by assumption) (by decide)) | (with_reducible exact room_le2 (by assumption) (by decide)) | (with_reducible exact room_le3 (by assumption) (by decide)) | (with_reducible exact room_le4 (by assumption) (by decide)))))
  k_with "k_room" => (k_extra "mine room")
  k_with "k_units" => (k_extra "mine room")
  trivial
section
section
variable {prog : Program} {w : World} {A : Around} {E : Value → Shared → Prop} {s : Shared} {h₀ : Heap} {L D lo : Addr} {news : List (Addr × Obj)} {ws : List Value} {c : Nat} {b : Array UInt8} {m : Str → Option Value} {Q : Value → Shared → Prop}
theorem ints_of_items : ∀ {l : List UInt8} {vs : List Value}, vs.length = l.length → (∀ (j : Nat) (v : Value), vs[j]? = some v → ∃ (c : UInt8) (u : Tok), l[j]? = some c ∧ v = Value.int (c.toNat : Int) u) → IntsAre vs (l.map fun x => (x.toNat : Int))
  | [], [], _, _ => by simp only [List.map_nil]; exact .nil
  | [], _ :: _, h, _ => by simp at h
  | _ :: _, [], h, _ => by simp at h
  | x :: l, y :: vs, h, hj => by
    obtain ⟨c, u, e1, e2⟩ := hj 0 y rfl
    have e1' : x = c := by simpa using e1
    subst e1' e2
    exact .cons _ _ (ints_of_items (by simpa using h) fun j v hv => by simpa using hj (j + 1) v (by simpa using hv))
theorem octOf_ints {acc : Array Value} (h : ItemsOf (octOf b) acc b.size) : IntsAre acc.toList (ocs b) := by
  refine ints_of_items (by simpa using h.1) fun j v hv => ?_
  obtain ⟨c, u, e1, e2⟩ := h.2 j v (by simpa using hv)
  exact ⟨c, u, by simpa using e1, e2⟩
theorem list_of_ba (hh : A.handled = none) (F : Fr h₀ L s.heap m) (N : News h₀ L s.heap news) (hD : (D, baObj b) ∈ news) (hlen : b.size ≤ 64)
    (h : ∀ l vs c h' tk', IntsAre vs (ocs b) → Fr h₀ L h' m → News h₀ L h' ((l, listOf vs.toArray c) :: news) → Q (.ref l) { s with heap := h', toks := tk' }) :
    wpAny (model prog w) A (call (.type "list") [.ref D]) Q E s := by
  refine call_list_ba hh (N _ hD).1 hlen fun h' tk acc c hk ho hi => ?_
  refine h s.heap.objs.size acc.toList c h' tk (octOf_ints hi) (F.grownK hk) ?_
  intro p hp
  rcases List.mem_cons.mp hp with rfl | hp
  · exact ⟨by simpa using ho, fun e => absurd F.ns.lt (by rw [← e]; exact Nat.lt_irrefl _), next_is_new F⟩
  · exact ⟨hk _ _ (N p hp).1, (N p hp).2⟩
theorem eq_ints_C {a : Addr} {vs us : List Value} {ns : List Int} {c' : Nat} (N : News h₀ L s.heap news) (ha : (a, listOf vs.toArray c) ∈ news) (hi : IntsAre vs ns) (hb : (lo, listOf us.toArray c') ∈ news) (hi' : IntsAre us ns) (hu : A.units + 64 < cLine)
    (h : Q (.bool true) s) : wpAny (model prog w) A (compareOp .Eq (.ref a) (.ref lo)) Q E s :=
  eq_intsK ⟨_, N.get ha, rfl, _, rfl⟩ hi ⟨_, N.get hb, rfl, _, rfl⟩ hi' hu (by rw [decide_eq_true rfl]; exact h)
end
theorem kw51 : True := by
  w_top off
  k_with "m call type:list" => (k_here; k_dflt (refine' list_of_ba ?zzhh ?zzhF ?zzhN ?zzhD hb ?_); (case zzhF => k_asm); (case zzhN => k_asm); (case zzhh => exact rfl); (case zzhD => k_extra "mine mem"); (intro l vs c h' tk' hi' F' N'))
  k_with "m compareOp Eq ref ref" => (k_here; (with_reducible show wpAny _ _ (compareOp CmpOp.Eq (Value.ref _) (Value.ref _)) _ _ _); k_dflt (refine' eq_ints_C ?zzhN ?zzha ?zzhi ?zzhb ?zzhj ?zzhu ?_); (case zzhN => k_asm); (case zzha => k_extra "mine mem"); (case zzhb => k_extra "mine mem"); (case zzhi => assumption); (case zzhj => assumption); (case zzhu => k_extra "mine room"); k_whole)
  trivial
theorem pieceI {w : World} {mean : ExcName → Option Value} {mg mb : Str → Option Value} {p : Program} {loose : List Str} {c1 c2 c3 c4 c5 c6 c7 c8 : Addr} {o1 o2 o3 o4 o5 o6 o7 o8 : Obj} {D lo : Addr} {b : Array UInt8} {ws : List Value} {co : Nat} {m : Str → Option Value} {led : List (Addr × Obj)}
   (dp un : Nat) (gd : Option (List Code)) (a : Addr) (A₀ : Around) (base h₀ : Heap) (L : Addr) (s : Shared) (Q : Flow → Shared → Prop) (E : Value → Shared → Prop) (B : Below A₀ base [] h₀) (X : (hd.heap_1 w.params).In h₀) (T : Top p loose mean mg mb h₀) (XB : (hd.heap_1 w.params).In base) (TB : Top p loose mean mg mb base) (hd : dp + 50 < recursionLimit) (hu : un + 900 < cLine) (hb : b.size ≤ 64) (hi : IntsAre ws (ocs b))
   (m3 : (D, baObj b) ∈ led) (m4 : (lo, listOf ws.toArray co) ∈ led) (n1 : (c1, o1) ∈ led) (d1 : o1.data = .cell (some (.ref D)))
   (F : Fr h₀ L s.heap (fun z => if z = Str.ofString "octets" then some (.ref lo) else m z))
   (N : News h₀ L s.heap led)
   (hret : ∀ (h' : Heap) (tk' : Nat), Fr h₀ L h' (fun z => if z = Str.ofString "octets" then some (.ref lo) else m z) →
     News h₀ L h' led → Q (.ret (.bool true)) { s with heap := h', toks := tk' }) :
   wpAny (model PySem.Challenge.rw_ke0006_01.row.prog w) (ktrTop dp un gd (Str.ofString "law") lawScope L a (.ref 408) [(Str.ofString "without", c8), (Str.ofString "v", c7), (Str.ofString "table", c6), (Str.ofString "pos", c5), (Str.ofString "off", c4), (Str.ofString "kind", c3), (Str.ofString "flags", c2), (Str.ofString "data", c1)] []) (execs lawI (envX (Str.ofString "law") lawScope L a (.ref 408) [(Str.ofString "without", c8), (Str.ofString "v", c7), (Str.ofString "table", c6), (Str.ofString "pos", c5), (Str.ofString "off", c4), (Str.ofString "kind", c3), (Str.ofString "flags", c2), (Str.ofString "data", c1)])) Q E s := by
  revert X; k_fill; intro X
  show wpAny _ _ (execs [_] _) _ _ _
  k_steps
  all_goals (first | exact hret _ _ (by assumption) (cb_drop (by assumption) (by kcj_in)))
end
theorem kw52 : True := by
  w_top off
  k_with_none
  k_with "k_ne" => ((try dsimp only); with_reducible first | exact Nat.ne_of_lt (by k_extra "mine lt") | exact Nat.ne_of_gt (by k_extra "mine lt") | fail)
  k_with "mine lt" => (first | assumption | (refine Nat.lt_trans (by assumption) ?_; k_extra "mine lt"))
  k_with "mine rc" => ((case zzkB => k_asm); (case zzkF => k_asm); (case zzkX => k_asm); (case zzkN => k_asm); (case zzkT => k_asm); (case zzkf => first | k_dflt exact rfl | assumption); (case zzkd => k_extra "mine room"); (case zzku => k_extra "mine room"))
  k_with "mine ra" => ((case zzkB => k_asm); (case zzkF => k_asm); (case zzkX => k_asm); (case zzkN => k_asm); (case zzkT => k_asm); (case zzkf => first | exact rfl | assumption); (case zzkd => ktr_room); (case zzku => ktr_units))
  k_with "mine name" => (first | (name_kind "local"; refine' nameX_L (by k_asm) (by exact rfl) ?_ (by kernel_rfl) (by kernel_rfl) (by kernel_rfl); k_whole) | (name_kind "globalImplicit"; refine' nameX_K (by k_asm) (by k_asm) (by k_asm) (by k_is) ?_ (by kernel_rfl) (by kernel_rfl) (by kernel_rfl); k_whole) | (name_kind "globalImplicit"; refine' nameX_B (by k_asm) (by k_asm) (by k_asm) (by k_is) (by boot_fast) (by decide) ?_ (by kernel_rfl) (by kernel_rfl) (by kernel_rfl); k_whole))
  k_with "m eval Name" => (k_here; k_dflt k_extra "mine name")
  k_with "k_room" => (ktr_room)
  k_with "k_units" => (ktr_units)
  k_with "m getMethod ref" => (k_here; (with_reducible show wpAny _ _ (getMethod (Value.ref _) (PySem.Str.ofString "unpack_from") _) _ _ _); (refine' method_unpack ?zzhP ?_; (case zzhP => exact (Frag.In.keeps (by k_asm) (Fr.keep (by k_asm))) _ _ (by assumption)); k_whole))
  k_with "m call builtin:_struct.Struct.unpack_from" => (k_here; ((focus (refine' unpack_call ?zzhh ?zzF ?zzN ?zzhP ?zzhd ?zzPK ?zzh0 ?zzh1 ?zzhb ?zzhw (fun hin9 T'9 t'9 h'9 tk'9 F'9 N'9 l19 => ?_) (fun hin9 h'9 tk'9 e'9 x'9 => ?_); (case zzhh => rfl); (case zzF => k_asm); (case zzN => k_asm); (case zzhP => exact (Frag.In.keeps (by k_asm) (Fr.keep (by k_asm))) _ _ (by assumption)); (case zzhd => exact News.get (by k_asm) (by k_mem)); (case zzPK => assumption); (case zzh0 => assumption); (case zzh1 => omega); (case zzhb => assumption); (case zzhw => assumption); (all_goals ((try k_lt l19))); rotate_left))))
  k_with "m leaving ref" => (k_here; (first | (refine' leave_onX rfl ?zzk1 ?zzk2 ?zzk3 ?zzk4 ?_; (case zzk3 => assumption); (case zzk1 => assumption); (case zzk4 => assumption); (case zzk2 => assumption); k_whole; intro h' R' U'; (try dsimp only at R' U' ⊢)) | (refine' leave_newN ?zzk1 ?zzk0 ?zzk2 ?zzk3 ?_; (case zzk0 => assumption); (case zzk1 => assumption); (case zzk2 => assumption); (case zzk3 => k_asm); k_whole; intro h' R' U'; (try dsimp only at R' U' ⊢)) | (refine' leave_raiseN ?zzk1 ?zzk0 ?zzk2 ?zzk3 ?_; (case zzk0 => first | assumption | (exact Heap.MadeExc.of (by assumption))); (case zzk1 => assumption); (case zzk2 => assumption); (case zzk3 => k_asm); k_whole; intro h' R' U'; (try dsimp only at R' U' ⊢))))
  k_with "m getAttr ref" => (k_here; (first | (refine' cls_val ?zzk1 ?zzk2 ?zzk3 ?zzk4 ?zzk5 ?zzk6 ?_; (case zzk1 => k_asm); (case zzk2 => k_asm); (case zzk3 => exact Flag.ty (by assumption)); (case zzk4 => exact Flag.rd (by assumption)); (case zzk5 => first | (exact Flag.mn (by assumption)) | (exact Flag.mx (by assumption)) | (exact Flag.pkt (by assumption)) | assumption); (case zzk6 => rfl); k_whole) | (refine' cls_pyt ?zzX ?zzr ?zza ?zzb ?zzT ?_; (case zza => exact Flag.pyt (by assumption)); (case zzX => exact (Frag.In.keeps (by k_asm) (Fr.keep (by k_asm)))); (case zzr => exact Flag.rd (by assumption)); (case zzb => exact Flag.pym (by assumption)); (case zzT => first | exact FF.mt_int | exact FF.mt_bool | assumption); k_whole)))
  k_with "m compareOp LtE bool int" => (refine le_bool_int ?_)
  k_with "m compareOp LtE int bool" => (refine le_int_bool ?_)
  k_with "m call ref" => (k_here; (first | ((with_reducible show wpAny _ _ (call (Value.ref 220) [Value.int _ _, Value.ref 199]) _ _ _); (focus (k_dflt (refine' (enforce_U ?zzh0 ?zzh1).use ?zzkB ?zzkF ?zzkX ?zzkN ?zzkT ?zzkf ?zzkd ?zzku ⟨(fun hc9 t'9 h'9 tk'9 F'9 N'9 => ?_), (fun hc9 e'9 g'9 h'9 tk'9 FG'9 U'9 R'9 => ?_)⟩); (k_extra "mine ra"); (case zzh0 => first | assumption | omega); (case zzh1 => first | assumption | omega); (all_goals ((try (exfalso; omega)))); rotate_left))) | ((with_reducible show wpAny _ _ (call (Value.ref 220) [Value.int _ _, Value.ref 211]) _ _ _); (focus (k_dflt (refine' (enforce_V ?zzh0 ?zzh1).use ?zzkB ?zzkF ?zzkX ?zzkN ?zzkT ?zzkf ?zzkd ?zzku ⟨(fun hc9 t'9 h'9 tk'9 F'9 N'9 => ?_), (fun hc9 e'9 g'9 h'9 tk'9 FG'9 U'9 R'9 => ?_)⟩); (k_extra "mine ra"); (case zzh0 => first | assumption | omega); (case zzh1 => first | assumption | omega); (all_goals ((try (exfalso; omega)))); rotate_left))) | ((with_reducible show wpAny _ _ (call (Value.ref 220) [Value.int _ _, Value.ref _]) _ _ _); (focus (k_dflt (refine' (enforce_k ?zzhK ?zzhk ?zzh0 ?zzh1).use ?zzkB ?zzkF ?zzkX ?zzkN ?zzkT ?zzkf ?zzkd ?zzku ⟨(fun hc9 t'9 h'9 tk'9 F'9 N'9 => ?_), (fun hc9 e'9 g'9 h'9 tk'9 FG'9 U'9 R'9 => ?_)⟩; (case zzhK => assumption); (case zzhk => assumption)); (k_extra "mine ra"); (case zzh0 => first | assumption | omega); (case zzh1 => first | assumption | omega); (all_goals ((try (exfalso; omega)))); rotate_left)))))
  k_with "m getMethod ref" => (k_here; (with_reducible show wpAny _ _ (getMethod (Value.ref _) (PySem.Str.ofString "py_type") _) _ _ _); (refine' method_of_cls ?zzF ?zzX ?zzg ?_; (case zzF => k_asm); (case zzX => k_asm); (case zzg => exact Flag.sp (by assumption)); k_whole))
  k_with "m call ref" => (k_here; (first | ((with_reducible show wpAny _ _ (call (Value.ref 227) [Value.ref 46, Value.ref _, Value.int _ _]) _ _ _); k_dflt (refine' (get_encode_U ?zzh0 ?zzh1 ?zzhb ?zzhm).use ?zzkB ?zzkF ?zzkX ?zzkN ?zzkT ?zzkf ?zzkd ?zzku ?_); (k_extra "mine rc"); (case zzhm => k_extra "mine mem"); (case zzh0 => first | assumption | omega); (case zzh1 => first | assumption | omega); (case zzhb => assumption); (first | ((focus (refine saysRet_bool (fun i9 hv9 t'9 h'9 tk'9 F'9 N'9 => ?_) (fun hv9 e'9 g'9 h'9 tk'9 FG'9 U'9 R'9 => ?_); rotate_left))) | ((focus (refine saysRet_int ?zzhk ?zzhn (fun i9 hv9 hi9 t'9 h'9 tk'9 F'9 N'9 => ?_) (fun hv9 e'9 g'9 h'9 tk'9 FG'9 U'9 R'9 => ?_); (case zzhk => first | assumption | omega | decide); (case zzhn => first | assumption | omega); (all_goals ((try simp only [loK, hiK] at hi9))); rotate_left))))) | ((with_reducible show wpAny _ _ (call (Value.ref 227) [Value.ref _, Value.ref _, Value.int _ _]) _ _ _); k_dflt (refine' (get_encode ?zzhP ?zzPK ?zzh0 ?zzh1 ?zzhb ?zzhw ?zzhm).use ?zzkB ?zzkF ?zzkX ?zzkN ?zzkT ?zzkf ?zzkd ?zzku ?_; (case zzhP => assumption); (case zzPK => assumption); (case zzhw => assumption)); (k_extra "mine rc"); (case zzhm => k_extra "mine mem"); (case zzh0 => first | assumption | omega); (case zzh1 => first | assumption | omega); (case zzhb => assumption); (first | ((focus (refine saysRet_bool (fun i9 hv9 t'9 h'9 tk'9 F'9 N'9 => ?_) (fun hv9 e'9 g'9 h'9 tk'9 FG'9 U'9 R'9 => ?_); rotate_left))) | ((focus (refine saysRet_int ?zzhk ?zzhn (fun i9 hv9 hi9 t'9 h'9 tk'9 F'9 N'9 => ?_) (fun hv9 e'9 g'9 h'9 tk'9 FG'9 U'9 R'9 => ?_); (case zzhk => first | assumption | omega | decide); (case zzhn => first | assumption | omega); (all_goals ((try simp only [loK, hiK] at hi9))); rotate_left)))))))
  k_with "m call ref" => (k_here; (first | ((with_reducible show wpAny _ _ (call (Value.ref 291) [Value.ref _, Value.ref 187, Value.int _ _]) _ _ _); k_dflt (refine' (get_S ?zzh0 ?zzh1 ?zzhb ?zzm1 ?zzm2 ?zzm3).use ?zzkB ?zzkF ?zzkX ?zzkN ?zzkT ?zzkf ?zzkd ?zzku ?_); (k_extra "mine rc"); (case zzm1 => k_extra "mine mem"); (case zzm2 => k_extra "mine mem"); (case zzm3 => k_extra "mine mem"); (case zzh0 => first | assumption | omega); (case zzh1 => first | assumption | omega); (case zzhb => assumption); (focus (refine saysRet_reads (by decide) (fun i9 hv9 hr9 hi9 t'9 h'9 tk'9 F'9 N'9 => ?_) (fun hv9 hr9 e'9 g'9 h'9 tk'9 FG'9 U'9 R'9 => ?_) (fun hv9 hr9 e'9 g'9 h'9 tk'9 FG'9 U'9 R'9 => ?_); (all_goals ((try simp only [loK, hiK] at hi9); (try (exfalso; omega))))))) | ((with_reducible show wpAny _ _ (call (Value.ref 291) [Value.ref _, Value.ref 199, Value.int _ _]) _ _ _); k_dflt (refine' (get_U ?zzh0 ?zzh1 ?zzhb ?zzm1 ?zzm2 ?zzm3).use ?zzkB ?zzkF ?zzkX ?zzkN ?zzkT ?zzkf ?zzkd ?zzku ?_); (k_extra "mine rc"); (case zzm1 => k_extra "mine mem"); (case zzm2 => k_extra "mine mem"); (case zzm3 => k_extra "mine mem"); (case zzh0 => first | assumption | omega); (case zzh1 => first | assumption | omega); (case zzhb => assumption); (focus (refine saysRet_reads (by decide) (fun i9 hv9 hr9 hi9 t'9 h'9 tk'9 F'9 N'9 => ?_) (fun hv9 hr9 e'9 g'9 h'9 tk'9 FG'9 U'9 R'9 => ?_) (fun hv9 hr9 e'9 g'9 h'9 tk'9 FG'9 U'9 R'9 => ?_); (all_goals ((try simp only [loK, hiK] at hi9); (try (exfalso; omega))))))) | ((with_reducible show wpAny _ _ (call (Value.ref 291) [Value.ref _, Value.ref 211, Value.int _ _]) _ _ _); k_dflt (refine' (get_V ?zzh0 ?zzh1 ?zzhb ?zzm1 ?zzm2 ?zzm3).use ?zzkB ?zzkF ?zzkX ?zzkN ?zzkT ?zzkf ?zzkd ?zzku ?_); (k_extra "mine rc"); (case zzm1 => k_extra "mine mem"); (case zzm2 => k_extra "mine mem"); (case zzm3 => k_extra "mine mem"); (case zzh0 => first | assumption | omega); (case zzh1 => first | assumption | omega); (case zzhb => assumption); (focus (refine saysRet_reads (by decide) (fun i9 hv9 hr9 hi9 t'9 h'9 tk'9 F'9 N'9 => ?_) (fun hv9 hr9 e'9 g'9 h'9 tk'9 FG'9 U'9 R'9 => ?_) (fun hv9 hr9 e'9 g'9 h'9 tk'9 FG'9 U'9 R'9 => ?_); (all_goals ((try simp only [loK, hiK] at hi9); (try (exfalso; omega)))))))))
  k_with "mine end" => ((rename SaysRet _ _ _ _ _ _ _ _ _ _ => hR); (first | (exact hR.int (by k_extra "mine eq") _ _ _ (by assumption) (by first | assumption | exact cb_drop (by assumption) (by kcj_in))) | (exact hR.bytes (by k_extra "mine eq") _ _ _ (by assumption) (by first | assumption | exact cb_drop (by assumption) (by kcj_in))) | (exact hR.bool (by k_extra "mine eq") 0 _ _ (by assumption) (by first | assumption | exact cb_drop (by assumption) (by kcj_in))) | (exact hR.typ (by k_extra "mine eq") _ _ _ _ (by assumption) (by assumption) (by first | assumption | exact raisedSN_weak (by assumption) (by kcj_in))) | (exact hR.fin (by k_extra "mine eq") _ _ _ _ (by assumption) (by assumption) (by first | assumption | exact raisedSN_weak (by assumption) (by kcj_in)))))
  k_with "m call ref" => (k_here; (with_reducible show wpAny _ _ (call (Value.ref 249) [Value.ref _, Value.int _ _]) _ _ _); k_dflt (refine' (offset_ok ?zzh0 ?zzh1 ?zzh2 ?zzh3 ?zzhb ?zzm1 ?zzm2 ?zzm3).use ?zzkB ?zzkF ?zzkX ?zzkN ?zzkT ?zzkf ?zzkd ?zzku ?_); (k_extra "mine rc"); (case zzm1 => k_extra "mine mem"); (case zzm2 => k_extra "mine mem"); (case zzm3 => k_extra "mine mem"); (case zzh0 => first | assumption | omega); (case zzh1 => first | assumption | omega); (case zzh2 => first | assumption | omega); (case zzh3 => first | assumption | omega); (case zzhb => assumption); refine saysRet_row (fun i9 hv9 hi9 t'9 h'9 tk'9 F'9 N'9 => ?_) (fun hv9 e'9 g'9 h'9 tk'9 FG'9 U'9 R'9 => ?_) (fun hv9 e'9 g'9 h'9 tk'9 FG'9 U'9 R'9 => ?_))
  k_with "m call ref" => (k_here; (first | ((with_reducible show wpAny _ _ (call (Value.ref 220) [Value.int _ _, Value.ref 199]) _ _ _); k_dflt (refine' (enforce_U ?zzh0 ?zzh1).use ?zzkB ?zzkF ?zzkX ?zzkN ?zzkT ?zzkf ?zzkd ?zzku ?_); (k_extra "mine rc"); (case zzh0 => first | assumption | omega); (case zzh1 => first | assumption | omega); (focus (refine ⟨(fun hc9 t'9 h'9 tk'9 F'9 N'9 => ?_), (fun hc9 e'9 g'9 h'9 tk'9 FG'9 U'9 R'9 => ?_)⟩; (all_goals ((try (exfalso; omega)))); rotate_left))) | ((with_reducible show wpAny _ _ (call (Value.ref 220) [Value.int _ _, Value.ref 211]) _ _ _); k_dflt (refine' (enforce_V ?zzh0 ?zzh1).use ?zzkB ?zzkF ?zzkX ?zzkN ?zzkT ?zzkf ?zzkd ?zzku ?_); (k_extra "mine rc"); (case zzh0 => first | assumption | omega); (case zzh1 => first | assumption | omega); (focus (refine ⟨(fun hc9 t'9 h'9 tk'9 F'9 N'9 => ?_), (fun hc9 e'9 g'9 h'9 tk'9 FG'9 U'9 R'9 => ?_)⟩; (all_goals ((try (exfalso; omega)))); rotate_left))) | ((with_reducible show wpAny _ _ (call (Value.ref 220) [Value.int _ _, Value.ref _]) _ _ _); k_dflt (refine' (enforce_k ?zzhK ?zzhk ?zzh0 ?zzh1).use ?zzkB ?zzkF ?zzkX ?zzkN ?zzkT ?zzkf ?zzkd ?zzku ?_; (case zzhK => assumption); (case zzhk => first | assumption | omega)); (k_extra "mine rc"); (case zzh0 => first | assumption | omega); (case zzh1 => first | assumption | omega); (focus (refine ⟨(fun hc9 t'9 h'9 tk'9 F'9 N'9 => ?_), (fun hc9 e'9 g'9 h'9 tk'9 FG'9 U'9 R'9 => ?_)⟩; (all_goals ((try (exfalso; omega)))); rotate_left)))))
  k_with "m call ref" => (k_here; (first | ((with_reducible show wpAny _ _ (call (Value.ref 291) [Value.ref _, Value.ref 187, Value.int _ _]) _ _ _); fail) | ((with_reducible show wpAny _ _ (call (Value.ref 291) [Value.ref _, Value.ref 199, Value.int _ _]) _ _ _); fail) | ((with_reducible show wpAny _ _ (call (Value.ref 291) [Value.ref _, Value.ref 211, Value.int _ _]) _ _ _); fail) | ((with_reducible show wpAny _ _ (call (Value.ref 291) [Value.ref _, Value.ref _, Value.int _ _]) _ _ _); k_dflt (refine' (get_okN ?zzhK ?zzhk0 ?zzhw ?zzh0 ?zzh1 ?zzhb ?zzm1 ?zzm2 ?zzm3).use ?zzkB ?zzkF ?zzkX ?zzkN ?zzkT ?zzkf ?zzkd ?zzku ?_; (case zzhK => assumption); (case zzhk0 => assumption); (case zzhw => exact wdK_le _)); (k_extra "mine rc"); (case zzm1 => k_extra "mine mem"); (case zzm2 => k_extra "mine mem"); (case zzm3 => k_extra "mine mem"); (case zzh0 => first | assumption | omega); (case zzh1 => first | assumption | omega); (case zzhb => assumption); (focus (refine saysRet_reads (by assumption) (fun i9 hv9 hr9 hi9 t'9 h'9 tk'9 F'9 N'9 => ?_) (fun hv9 hr9 e'9 g'9 h'9 tk'9 FG'9 U'9 R'9 => ?_) (fun hv9 hr9 e'9 g'9 h'9 tk'9 FG'9 U'9 R'9 => ?_); (all_goals ((try (exfalso; omega))))))) | ((with_reducible show wpAny _ _ (call (Value.ref 291) [Value.ref _, Value.ref _, Value.int _ _]) _ _ _); k_dflt (refine' (get_ok0 ?zzhK ?zzh0 ?zzh1 ?zzhb ?zzm1 ?zzm2 ?zzm3).use ?zzkB ?zzkF ?zzkX ?zzkN ?zzkT ?zzkf ?zzkd ?zzku ?_; (case zzhK => assumption)); (k_extra "mine rc"); (case zzm1 => k_extra "mine mem"); (case zzm2 => k_extra "mine mem"); (case zzm3 => k_extra "mine mem"); (case zzh0 => first | assumption | omega); (case zzh1 => first | assumption | omega); (case zzhb => assumption); (focus (refine saysRet_reads0 (fun i9 hv9 hr9 t'9 h'9 tk'9 F'9 N'9 => ?_) (fun hv9 hr9 e'9 g'9 h'9 tk'9 FG'9 U'9 R'9 => ?_) (fun hv9 hr9 e'9 g'9 h'9 tk'9 FG'9 U'9 R'9 => ?_); (all_goals ((try (exfalso; omega)))))))))
  k_with "m call ref" => (k_here; (first | ((with_reducible show wpAny _ _ (call (Value.ref 220) [Value.bool _, Value.ref 61]) _ _ _); k_dflt (refine' (enforce_bb).use ?zzkB ?zzkF ?zzkX ?zzkN ?zzkT ?zzkf ?zzkd ?zzku ⟨?_, fun hc => (hc trivial).elim⟩); (k_extra "mine rc"); (intro hc t' h' tk' F' N')) | ((with_reducible show wpAny _ _ (call (Value.ref 220) [Value.int _ _, Value.ref 61]) _ _ _); k_dflt (refine' (enforce_bi ?zzhn).use ?zzkB ?zzkF ?zzkX ?zzkN ?zzkT ?zzkf ?zzkd ?zzku ⟨fun hc => hc.elim, ?_⟩; (case zzhn => assumption)); (k_extra "mine rc"); (intro hc e' g' h' tk' FG' U' R'))))
  k_with "mine mem" => (with_reducible first | assumption | exact List.mem_cons_self | (refine List.mem_cons_of_mem _ ?_; k_extra "mine mem"))
  k_with "k_mem" => (k_extra "mine mem")
  k_with "mine eq" => (assumption)
  k_with "m call ref" => (k_here; (with_reducible show wpAny _ _ (call (Value.ref 320) _) _ _ _); k_dflt (refine' (kinds_ok).use ?zzkB ?zzkF ?zzkX ?zzkN ?zzkT ?zzkf ?zzkd ?zzku ?_); (k_extra "mine rc"); intro l' D' h' tk' F' N' K')
  k_with "m subscriptTail" => (k_here; (with_reducible show wpAny _ _ (subscriptTail _ _ (Value.ref _) (Value.int _ _)) _ _ _); (with_unfolding_all (refine' kinds_item ?zzN ?zzm ?zzK ?zzh0 ?zzh1 ?zzhW ?_ ?zzhs); (case zzN => k_asm); (case zzm => k_extra "mine mem"); (case zzK => k_asm); (case zzh0 => first | assumption | omega); (case zzh1 => first | assumption | omega); (case zzhW => first | assumption | exact rfl); (case zzhs => with_unfolding_all rfl); k_whole); intro a' b' c' N')
  k_with "m UnrEnd" => (k_dflt (refine' unrEnd_tail ?zzF ?zzN ?zzoff ?_; (case zzF => k_asm); (case zzN => k_asm); (case zzoff => exact fun p hp => Nat.ne_of_lt (ktn_ltOf (by assumption) p hp)); k_whole))
  k_with "m call ref" => (k_here; (with_reducible show wpAny _ _ (call (Value.ref 339) _) _ _ _); k_dflt (refine' (number_ok ?zzh0 ?zzh1 ?zzhk0 ?zzhk1 ?zzhb ?zzhi ?zzm1).use ?zzkB ?zzkF ?zzkX ?zzkN ?zzkT ?zzkf ?zzkd ?zzku ?_); (k_extra "mine rc"); (case zzm1 => k_extra "mine mem"); (case zzhi => assumption); (case zzhb => assumption); (case zzh0 => first | assumption | omega); (case zzh1 => first | assumption | omega); (case zzhk0 => first | assumption | omega); (case zzhk1 => first | assumption | omega); (focus (refine rets_rd ?zzz (fun i9 hv9 hb9 t'9 h'9 tk'9 F'9 N'9 => ?_) (fun i9 hv9 t'9 h'9 tk'9 F'9 N'9 => ?_) (fun hv9 t'9 h'9 tk'9 F'9 N'9 => ?_); (case zzz => first | assumption | omega); (all_goals ((try simp only [Int.reduceToNat, loK, hiK] at hv9 hb9); (try simp only [Int.reduceToNat] at hv9); (try (exfalso; exact rd3_nobool hv9)))))))
  k_with "mine end" => ((rename Rets _ _ _ _ _ _ _ => hR); (first | (exact rets_int hR (by k_extra "mine eq") _ _ _ (by assumption) (by first | assumption | exact cb_drop (by assumption) (by kcj_in))) | (exact rets_typ hR (by k_extra "mine eq") _ _ _ (by assumption) (by first | assumption | exact cb_drop (by assumption) (by kcj_in))) | (exact rets_fin hR (by k_extra "mine eq") _ _ _ (by assumption) (by first | assumption | exact cb_drop (by assumption) (by kcj_in))) | (exact rets_bytes hR (by k_extra "mine eq") _ _ _ (by assumption) (by first | assumption | exact cb_drop (by assumption) (by kcj_in))) | (exact rets_bool hR (by k_extra "mine eq") 0 _ _ (by assumption) (by first | assumption | exact cb_drop (by assumption) (by kcj_in)))))
  k_with "m call ref" => (k_here; (with_reducible show wpAny _ _ (call (Value.ref 346) _) _ _ _); k_dflt (refine' (held_ok ?zzh0 ?zzh1 ?zzhk0 ?zzhk1 ?zzhb ?zzhi ?zzm1).use ?zzkB ?zzkF ?zzkX ?zzkN ?zzkT ?zzkf ?zzkd ?zzku ?_); (k_extra "mine rc"); (case zzm1 => k_extra "mine mem"); (case zzhi => assumption); (case zzhb => assumption); (case zzh0 => first | assumption | omega); (case zzh1 => first | assumption | omega); (case zzhk0 => first | assumption | omega); (case zzhk1 => first | assumption | omega); (first | ((focus (refine rets_reads ?zzz (fun i9 hv9 hr9 hb9 t'9 h'9 tk'9 F'9 N'9 => ?_) (fun hv9 hr9 t'9 h'9 tk'9 F'9 N'9 => ?_) (fun hv9 hr9 t'9 h'9 tk'9 F'9 N'9 => ?_); (case zzz => decide); (all_goals ((try simp only [Int.reduceToNat, loK, hiK] at hv9 hb9); (try (exfalso; omega)); (try simp only [Int.reduceToNat] at hv9)))))) | (refine rets_reads4 (fun i9 hv9 t'9 h'9 tk'9 F'9 N'9 => ?_) (fun i9 hv9 t'9 h'9 tk'9 F'9 N'9 => ?_) (fun hv9 t'9 h'9 tk'9 F'9 N'9 => ?_) (fun hv9 t'9 h'9 tk'9 F'9 N'9 => ?_)) | ((focus (refine rets_reads ?zzz (fun i9 hv9 hr9 hb9 t'9 h'9 tk'9 F'9 N'9 => ?_) (fun hv9 hr9 t'9 h'9 tk'9 F'9 N'9 => ?_) (fun hv9 hr9 t'9 h'9 tk'9 F'9 N'9 => ?_); (case zzz => first | decide | assumption | omega); (all_goals ((try simp only [Int.reduceToNat, loK, hiK] at hv9 hb9); (try (exfalso; omega)); (try simp only [Int.reduceToNat] at hv9))))))))
  k_with "mine held" => ((focus (refine rets_reads ?zzz (fun i9 hv9 hr9 hb9 t'9 h'9 tk'9 F'9 N'9 => ?_) (fun hv9 hr9 t'9 h'9 tk'9 F'9 N'9 => ?_) (fun hv9 hr9 t'9 h'9 tk'9 F'9 N'9 => ?_); (case zzz => first | decide | assumption | omega); (all_goals ((try simp only [Int.reduceToNat, loK, hiK] at hv9 hb9); (try (exfalso; omega)); (try simp only [Int.reduceToNat] at hv9))))))
  k_with "mine num" => ((focus (refine rets_rd ?zzz (fun i9 hv9 hb9 t'9 h'9 tk'9 F'9 N'9 => ?_) (fun i9 hv9 t'9 h'9 tk'9 F'9 N'9 => ?_) (fun hv9 t'9 h'9 tk'9 F'9 N'9 => ?_); (case zzz => first | assumption | omega); (all_goals ((try simp only [Int.reduceToNat, loK, hiK] at hv9 hb9); (try simp only [Int.reduceToNat] at hv9); (try (exfalso; exact rd3_nobool hv9)))))))
  k_with "m call ref" => (k_here; (first | ((with_reducible show wpAny _ _ (call (Value.ref 353) _) _ _ _); k_dflt (refine' (lrow_ok ?zzh0 ?zzh1 ?zzh2 ?zzh3 ?zzhb ?zzhi ?zzm1).use ?zzkB ?zzkF ?zzkX ?zzkN ?zzkT ?zzkf ?zzkd ?zzku ?_); (k_extra "mine rc"); (case zzm1 => k_extra "mine mem"); (case zzhi => assumption); (case zzhb => assumption); (case zzh0 => first | assumption | omega); (case zzh1 => first | assumption | omega); (case zzh2 => first | assumption | omega); (case zzh3 => first | assumption | omega); refine rets_row (fun i9 hv9 hb9 t'9 h'9 tk'9 F'9 N'9 => ?_) (fun hv9 t'9 h'9 tk'9 F'9 N'9 => ?_) (fun hv9 t'9 h'9 tk'9 F'9 N'9 => ?_)) | ((with_reducible show wpAny _ _ (call (Value.ref 360) _) _ _ _); k_dflt (refine' (lfar_ok ?zzh0 ?zzh1 ?zzhb ?zzhi ?zzm1).use ?zzkB ?zzkF ?zzkX ?zzkN ?zzkT ?zzkf ?zzkd ?zzku ?_); (k_extra "mine rc"); (case zzm1 => k_extra "mine mem"); (case zzhi => assumption); (case zzhb => assumption); (case zzh0 => first | assumption | omega); (case zzh1 => first | assumption | omega); (focus (refine rets_far (fun i9 hv9 hr9 hb9 t'9 h'9 tk'9 F'9 N'9 => ?_) (fun hv9 hr9 t'9 h'9 tk'9 F'9 N'9 => ?_) (fun hv9 hr9 t'9 h'9 tk'9 F'9 N'9 => ?_); (all_goals ((try (exfalso; omega)))))))))
  k_with "mine lrow" => (refine rets_row (fun i9 hv9 hb9 t'9 h'9 tk'9 F'9 N'9 => ?_) (fun hv9 t'9 h'9 tk'9 F'9 N'9 => ?_) (fun hv9 t'9 h'9 tk'9 F'9 N'9 => ?_))
  k_with "mine lfar" => ((focus (refine rets_far (fun i9 hv9 hr9 hb9 t'9 h'9 tk'9 F'9 N'9 => ?_) (fun hv9 hr9 t'9 h'9 tk'9 F'9 N'9 => ?_) (fun hv9 hr9 t'9 h'9 tk'9 F'9 N'9 => ?_); (all_goals ((try (exfalso; omega)))))))
  k_with "mine held" => (refine rets_reads4 (fun i9 hv9 t'9 h'9 tk'9 F'9 N'9 => ?_) (fun i9 hv9 t'9 h'9 tk'9 F'9 N'9 => ?_) (fun hv9 t'9 h'9 tk'9 F'9 N'9 => ?_) (fun hv9 t'9 h'9 tk'9 F'9 N'9 => ?_))
  k_with "mine held" => ((focus (refine rets_reads ?zzz (fun i9 hv9 hr9 hb9 t'9 h'9 tk'9 F'9 N'9 => ?_) (fun hv9 hr9 t'9 h'9 tk'9 F'9 N'9 => ?_) (fun hv9 hr9 t'9 h'9 tk'9 F'9 N'9 => ?_); (case zzz => decide); (all_goals ((try simp only [Int.reduceToNat, loK, hiK] at hv9 hb9); (try (exfalso; omega)); (try simp only [Int.reduceToNat] at hv9))))))
  k_with "m eval Call" => (refine Call_ ?_)
  k_with "m eval Name" => (k_here; (k_dflt first | (name_kind "cell"; refine' nameX_C (by k_asm) (by exact rfl) ?zzm ?zzd ?_ (by kernel_rfl) (by exact rfl) (by kernel_rfl); (case zzm => k_mem); (case zzd => k_asm); k_whole) | (k_extra "mine name")))
  k_with "mine room" => (first | (with_reducible exact room_le (by assumption) (by decide)) | ((try simp only [depth_under_make, depth_under_kw, depth_in1, depth_deeper, depth_caller, units_under_make, units_in1, units_deeper, Around.mark_units, units_caller]); (try dsimp only [ktrTop]); (first | (with_reducible exact room_le (by assumption) (by decide)) | (with_reducible exact room_le2 (by assumption) (by decide)) | (with_reducible exact room_le3 (by assumption) (by decide)) | (with_reducible exact room_le4 (by assumption) (by decide)))))
  k_with "k_room" => (k_extra "mine room")
  k_with "k_units" => (k_extra "mine room")
  trivial
section
theorem reads_kind {k : Nat} (hk : k ≠ 0) (b : Array UInt8) (off : Int) : (∃ i, reads k b off = .int i) ∨ reads k b off = .typ ∨ reads k b off = .fin := by
  unfold reads rd decode
  repeat' split
  all_goals first | exact .inl ⟨_, rfl⟩ | exact .inr (.inl rfl) | exact .inr (.inr rfl) | (exfalso; omega)
theorem rowB_kind (b : Array UInt8) (pos v : Int) : (∃ i, rowB b pos v = .int i) ∨ rowB b pos v = .typ ∨ rowB b pos v = .fin := by
  unfold rowB
  rcases reads_kind (k := 7) (by decide) b pos with ⟨way, e⟩ | e | e
  · rw [e]; dsimp only
    rcases reads_kind (k := 2) (by decide) b (pos - way) with ⟨size, e2⟩ | e2 | e2
    · rw [e2]; dsimp only
      split
      · exact reads_kind (by decide) b _
      · exact .inl ⟨_, rfl⟩
    · rw [e2]; exact .inr (.inl rfl)
    · rw [e2]; exact .inr (.inr rfl)
  · rw [e]; exact .inr (.inl rfl)
  · rw [e]; exact .inr (.inr rfl)
theorem rowP_same (b : Array UInt8) (pos v off kind : Int) (dA : Ans) (h2 : 0 ≤ v) (h4 : 0 ≤ off) : ∀ k < 14, k ≠ 5 → (rowP b pos v off kind dA k).1 = (rowP b pos v off kind dA k).2 := by
  intro k hk h5
  match k, hk with
  | 0, _ | 1, _ | 2, _ | 3, _ | 4, _ | 7, _ | 8, _ | 9, _ | 10, _ | 11, _ | 13, _ => rfl
  | 5, _ => exact absurd rfl h5
  | 6, _ => exact vslot_far h2
  | 12, _ => exact far_neg (by omega)
  | n + 14, h => exact absurd h (by omega)
section
theorem turnH {w : World} {mean : ExcName → Option Value} {mg mb : Str → Option Value} {p : Program} {loose : List Str} {c1 c2 c3 c4 c5 c6 c7 c8 : Addr} {k : Int} {tk : Tok} {l : Addr} {rs : List Value} {co : Nat} {b : Array UInt8} {pos v off kind : Int} {dA : Ans} {m : Str → Option Value} {led : List (Addr × Obj)}
   (dp un : Nat) (gd : Option (List Code)) (a : Addr) (A₀ : Around) (base h₀ : Heap) (L : Addr) (s : Shared) (Q : Flow → Shared → Prop) (E : Value → Shared → Prop) (B : Below A₀ base [] h₀) (X : (hd.heap_1 w.params).In h₀) (T : Top p loose mean mg mb h₀) (XB : (hd.heap_1 w.params).In base) (TB : Top p loose mean mg mb base) (hd : dp + 50 < recursionLimit) (hu : un + 900 < cLine) (h0 : 0 ≤ k) (h1 : k < 14) (h2 : 0 ≤ v) (h3 : v < 24) (h4 : 0 ≤ off) (hr : RowsAre b pos v off kind dA rs led)
   (F : Fr h₀ L s.heap (fun z => if z = Str.ofString "k" then some (.int k tk) else if z = Str.ofString "rows" then some (.ref l) else m z))
   (N : News h₀ L s.heap ((l, listOf rs.toArray co) :: led))
   (hret : ∀ (h' : Heap) (tk' : Nat) (v1 v2 : Value), Fr h₀ L h' (fun z => if z = Str.ofString "due" then some v2 else if z = Str.ofString "told" then some v1 else if z = Str.ofString "k" then some (.int k tk) else if z = Str.ofString "rows" then some (.ref l) else m z) →
     News h₀ L h' ((l, listOf rs.toArray co) :: led) → Q .next { s with heap := h', toks := tk' }) :
   wpAny (model PySem.Challenge.rw_ke0006_01.row.prog w) (ktrTop dp un gd (Str.ofString "law") lawScope L a (.ref 408) [(Str.ofString "without", c8), (Str.ofString "v", c7), (Str.ofString "table", c6), (Str.ofString "pos", c5), (Str.ofString "off", c4), (Str.ofString "kind", c3), (Str.ofString "flags", c2), (Str.ofString "data", c1)] []) (execs rowBody (envX (Str.ofString "law") lawScope L a (.ref 408) [(Str.ofString "without", c8), (Str.ofString "v", c7), (Str.ofString "table", c6), (Str.ofString "pos", c5), (Str.ofString "off", c4), (Str.ofString "kind", c3), (Str.ofString "flags", c2), (Str.ofString "data", c1)])) Q E s := by
  obtain ⟨n, rfl⟩ : ∃ n : Nat, k = n := ⟨k.toNat, by omega⟩
  have hn : n < 14 := by omega
  obtain ⟨r, t, u, hx, hm⟩ := hr.2 n hn
  by_cases h5 : n = 5
  · subst h5
    rcases rowB_kind b pos v with ⟨i, e⟩ | e | e
    · by_cases hi : i = 0
      · have e1 : (rowP b pos v off kind dA 5).1 = .int 65535 := vslot_0 (by omega) e hi
        have e2 : (rowP b pos v off kind dA 5).2 = .int 0 := e.trans (by rw [hi])
        rw [e1, e2] at hm
        exact turnH50 dp un gd a A₀ base h₀ L s Q E B X T XB TB hd hu hx hm F N hret
      · have e1 : (rowP b pos v off kind dA 5).1 = .int i := vslot_i (by omega) e hi
        have e2 : (rowP b pos v off kind dA 5).2 = .int i := e
        rw [e1, e2] at hm
        exact turnH5i dp un gd a A₀ base h₀ L s Q E B X T XB TB hd hu hi hx hm F N hret
    · have e1 : (rowP b pos v off kind dA 5).1 = .typ := vslot_t (by omega) e
      have e2 : (rowP b pos v off kind dA 5).2 = .typ := e
      rw [e1, e2] at hm
      exact turnH5t dp un gd a A₀ base h₀ L s Q E B X T XB TB hd hu hx hm F N hret
    · have e1 : (rowP b pos v off kind dA 5).1 = .fin := vslot_f (by omega) e
      have e2 : (rowP b pos v off kind dA 5).2 = .fin := e
      rw [e1, e2] at hm
      exact turnH5f dp un gd a A₀ base h₀ L s Q E B X T XB TB hd hu hx hm F N hret
  · rw [rowP_same b pos v off kind dA h2 h4 n hn h5] at hm
    exact turnHn dp un gd a A₀ base h₀ L s Q E B X T XB TB hd hu h0 h1 (by omega) hx hm F N hret
end
section
variable {prog : Program} {w : World} {A : Around} {E : Value → Shared → Prop} {s : Shared} {env : Env} {h₀ : Heap} {body : List Stmt} {Q : Flow → Shared → Prop}
theorem iter_rows {x y1 y2 : Str} {r : Addr} {t₀ u₀ v₀ : Tok} {m : Str → Option Value} {news : List (Addr × Obj)}
    (hh : A.handled = none) (hr : IsRange s.heap r 0 14 1 t₀ u₀ v₀) (F : Fr h₀ env.locals s.heap m) (N : News h₀ env.locals s.heap news)
    (turn : ∀ (k : Int) (t : Tok) (m₁ : Str → Option Value) (h : Heap) (tk : Nat) (own : List (Addr × Obj)), 0 ≤ k → k < 14 → (∀ z, z ≠ x → z ≠ y1 → z ≠ y2 → m₁ z = m z) → Fr h₀ env.locals h (fun z => if z = x then some (.int k t) else m₁ z) → News h₀ env.locals h (news ++ own) →
      wpAny (model prog w) A (execs body env) (fun f s₂ => f = .next ∧ ∃ h' tk' m', s₂ = { s with heap := h', toks := tk' } ∧ Fr h₀ env.locals h' m' ∧ (∀ z, z ≠ x → z ≠ y1 → z ≠ y2 → m' z = m z) ∧ News h₀ env.locals h' (news ++ own)) E { s with heap := h, toks := tk })
    (done : ∀ (m₁ : Str → Option Value) (h : Heap) (tk : Nat), (∀ z, z ≠ x → z ≠ y1 → z ≠ y2 → m₁ z = m z) → Fr h₀ env.locals h m₁ → News h₀ env.locals h news → Q .next { s with heap := h, toks := tk }) :
    wpAny (model prog w) A (pyIter (.ref r)) (fun it s₂ => LoopAtV prog w A h₀ env x body Q E it s₂) E s := by
  refine tbr_invG (n := 14) (fun _ m₁ nx => nx = news ∧ ∀ z, z ≠ x → z ≠ y1 → z ≠ y2 → m₁ z = m z) hh hr (by decide) (by decide) F N ⟨rfl, fun _ _ _ _ => rfl⟩ ?_ ?_
  · rintro i k t m₁ nx h tk own hk hoff ⟨rfl, hm⟩ F₁ N₁
    have hb := mem_rangeKs (List.mem_of_getElem? hk)
    refine wpAny_mono (turn k t m₁ h tk own (by omega) (by omega) hm F₁ N₁) (fun f s₂ p => ?_) fun _ _ e => e
    obtain ⟨rfl, h', tk', m', rfl, F', hm', N'⟩ := p
    exact ⟨h', tk', m', nx ++ own, nx, rfl, F', N', fun p hp => List.mem_append_left _ hp, fun p hp => List.mem_append_right _ hp, hoff, rfl, hm'⟩
  · rintro m₁ nx h tk ⟨rfl, hm⟩ F₁ N₁
    exact done m₁ h tk hm F₁ N₁
end
section
variable {prog : Program} {w : World} {A : Around} {E : Value → Shared → Prop} {s : Shared} {h₀ : Heap} {L l : Addr} {news : List (Addr × Obj)} {rs : List Value} {c : Nat} {Q : Value → Shared → Prop}
theorem call_len14 (N : News h₀ L s.heap news) (hm : (l, listOf rs.toArray c) ∈ news) (hl : rs.length = 14) (h : Q (.int 14 (s.toks + 1)) { s with toks := s.toks + 1 + 1 }) : wpAny (model prog w) A (call (.builtin "len") [.ref l]) Q E s := by
  have hs : s.heap.IsList l rs.toArray := ⟨_, N.get hm, rfl, _, rfl⟩
  have e : rs.toArray.size = 14 := by simp [hl]
  refine Calls.call_len_list hs (by rw [e]; decide) ?_
  rw [e]; exact h
end
theorem fr_rows {h₀ h : Heap} {L : Addr} {m m₁ : Str → Option Value} {v w : Value} (hm : ∀ z, z ≠ Str.ofString "k" → z ≠ Str.ofString "told" → z ≠ Str.ofString "due" → m₁ z = (if z = Str.ofString "rows" then some w else m z))
    (F : Fr h₀ L h (fun z => if z = Str.ofString "k" then some v else m₁ z)) : Fr h₀ L h (fun z => if z = Str.ofString "k" then some v else if z = Str.ofString "rows" then some w else m₁ z) := by
  have e : (fun z => if z = Str.ofString "k" then some v else if z = Str.ofString "rows" then some w else m₁ z) = fun z => if z = Str.ofString "k" then some v else m₁ z := by
    funext z
    by_cases h1 : z = Str.ofString "k"
    · rw [if_pos h1, if_pos h1]
    · rw [if_neg h1, if_neg h1]
      by_cases h2 : z = Str.ofString "rows"
      · subst h2; rw [if_pos rfl, hm _ (by decide) (by decide) (by decide), if_pos rfl]
      · rw [if_neg h2]
  rw [e]; exact F
theorem turnHF {w : World} {mean : ExcName → Option Value} {mg mb : Str → Option Value} {p : Program} {loose : List Str} {c1 c2 c3 c4 c5 c6 c7 c8 : Addr} {k : Int} {tk : Tok} {l : Addr} {rs : List Value} {co : Nat} {b : Array UInt8} {pos v off kind : Int} {dA : Ans} {m m₁ : Str → Option Value} {led own : List (Addr × Obj)} {h : Heap} {tk₁ : Nat}
   (dp un : Nat) (gd : Option (List Code)) (a : Addr) (A₀ : Around) (base h₀ : Heap) (L : Addr) (s : Shared) (E : Value → Shared → Prop) (B : Below A₀ base [] h₀) (X : (hd.heap_1 w.params).In h₀) (T : Top p loose mean mg mb h₀) (XB : (hd.heap_1 w.params).In base) (TB : Top p loose mean mg mb base) (hd : dp + 50 < recursionLimit) (hu : un + 900 < cLine) (h0 : 0 ≤ k) (h1 : k < 14) (h2 : 0 ≤ v) (h3 : v < 24) (h4 : 0 ≤ off) (hr : RowsAre b pos v off kind dA rs led)
   (hm : ∀ z, z ≠ Str.ofString "k" → z ≠ Str.ofString "told" → z ≠ Str.ofString "due" → m₁ z = (if z = Str.ofString "rows" then some (.ref l) else m z))
   (F : Fr h₀ L h (fun z => if z = Str.ofString "k" then some (.int k tk) else m₁ z))
   (N : News h₀ L h (((l, listOf rs.toArray co) :: led) ++ own)) :
   wpAny (model PySem.Challenge.rw_ke0006_01.row.prog w) (ktrTop dp un gd (Str.ofString "law") lawScope L a (.ref 408) [(Str.ofString "without", c8), (Str.ofString "v", c7), (Str.ofString "table", c6), (Str.ofString "pos", c5), (Str.ofString "off", c4), (Str.ofString "kind", c3), (Str.ofString "flags", c2), (Str.ofString "data", c1)] []) (execs rowBody (envX (Str.ofString "law") lawScope L a (.ref 408) [(Str.ofString "without", c8), (Str.ofString "v", c7), (Str.ofString "table", c6), (Str.ofString "pos", c5), (Str.ofString "off", c4), (Str.ofString "kind", c3), (Str.ofString "flags", c2), (Str.ofString "data", c1)])) (fun f s₂ => f = .next ∧ ∃ h' tk' m', s₂ = { s with heap := h', toks := tk' } ∧ Fr h₀ L h' m' ∧ (∀ z, z ≠ Str.ofString "k" → z ≠ Str.ofString "told" → z ≠ Str.ofString "due" → m' z = (if z = Str.ofString "rows" then some (.ref l) else m z)) ∧ News h₀ L h' (((l, listOf rs.toArray co) :: led) ++ own)) E { s with heap := h, toks := tk₁ } := by
  have hr' : RowsAre b pos v off kind dA rs (led ++ own) := ⟨hr.1, fun k hk => by
    obtain ⟨r, t, u, e1, e2⟩ := hr.2 k hk
    exact ⟨r, t, u, e1, List.mem_append_left _ e2⟩⟩
  refine turnH dp un gd a A₀ base h₀ L _ _ E B X T XB TB hd hu h0 h1 h2 h3 h4 (led := led ++ own) hr' (fr_rows hm F) N ?_
  · intro h' tk' v1 v2 F' N'
    refine ⟨rfl, h', tk', _, rfl, F', fun z a b c => ?_, N'⟩
    rw [if_neg c, if_neg b, if_neg a]
    by_cases h2 : z = Str.ofString "rows"
    · rw [if_pos h2, if_pos h2]
    · rw [if_neg h2, if_neg h2, hm z a b c, if_neg h2]
theorem kw53 : True := by
  w_top off
  k_with "m call builtin:len" => (k_here; (with_reducible show wpAny _ _ (call (.builtin "len") [Value.ref _]) _ _ _); (refine' call_len14 ?zzN ?zzm hr.1 ?_; (case zzN => k_asm); (case zzm => k_extra "mine mem"); k_whole))
  k_with "m pyIter ref" => (k_here; k_dflt ((focus (refine' iter_rows (y1 := Str.ofString "told") (y2 := Str.ofString "due") ?zzhh ?zzhR ?zzhF ?zzhN ?zzturn (fun m₁9 h9 tk9 hm9 F'9 N'9 => ?_); (case zzhF => k_asm); (case zzhN => k_asm); (case zzhh => exact rfl); (case zzhR => assumption); (case zzturn => intro k t m₁ h tk own hk0 hk1 hm F' N'; exact turnHF _ _ _ _ _ _ _ _ _ _ B X T XB TB hd hu hk0 hk1 h2 h3 h4 hr hm F' N'); (all_goals ((try try dsimp only)))))))
  k_with "m exec For Name Call cons nil" => (k_here; (rename Fr _ _ _ _ => lF'); (with_unfolding_all (refine' For_invVF lF' ?zzk1 ?zzk2 ?_ ?zzk3 ?zzk4); (case zzk1 => exact rfl); (case zzk2 => exact rfl); (case zzk3 => exact fun _ => rfl); (case zzk4 => assumption); k_whole))
  trivial
theorem pieceH {w : World} {mean : ExcName → Option Value} {mg mb : Str → Option Value} {p : Program} {loose : List Str} {c1 c2 c3 c4 c5 c6 c7 c8 : Addr} {l : Addr} {rs : List Value} {co : Nat} {b : Array UInt8} {pos v off kind : Int} {dA : Ans} {m : Str → Option Value} {led : List (Addr × Obj)}
   (dp un : Nat) (gd : Option (List Code)) (a : Addr) (A₀ : Around) (base h₀ : Heap) (L : Addr) (s : Shared) (Q : Flow → Shared → Prop) (E : Value → Shared → Prop) (B : Below A₀ base [] h₀) (X : (hd.heap_1 w.params).In h₀) (T : Top p loose mean mg mb h₀) (XB : (hd.heap_1 w.params).In base) (TB : Top p loose mean mg mb base) (hd : dp + 50 < recursionLimit) (hu : un + 900 < cLine) (hE : PassesOwn (model PySem.Challenge.rw_ke0006_01.row.prog w) (ktrTop dp un gd (Str.ofString "law") lawScope L a (.ref 408) [(Str.ofString "without", c8), (Str.ofString "v", c7), (Str.ofString "table", c6), (Str.ofString "pos", c5), (Str.ofString "off", c4), (Str.ofString "kind", c3), (Str.ofString "flags", c2), (Str.ofString "data", c1)] []) (envX (Str.ofString "law") lawScope L a (.ref 408) [(Str.ofString "without", c8), (Str.ofString "v", c7), (Str.ofString "table", c6), (Str.ofString "pos", c5), (Str.ofString "off", c4), (Str.ofString "kind", c3), (Str.ofString "flags", c2), (Str.ofString "data", c1)]) E) (h2 : 0 ≤ v) (h3 : v < 24) (h4 : 0 ≤ off) (hr : RowsAre b pos v off kind dA rs led)
   (F : Fr h₀ L s.heap (fun z => if z = Str.ofString "rows" then some (.ref l) else m z))
   (N : News h₀ L s.heap ((l, listOf rs.toArray co) :: led))
   (hret : ∀ (h' : Heap) (tk' : Nat) (m' : Str → Option Value), (∀ z, z ≠ Str.ofString "k" → z ≠ Str.ofString "told" → z ≠ Str.ofString "due" → m' z = (if z = Str.ofString "rows" then some (.ref l) else m z)) → Fr h₀ L h' m' →
     News h₀ L h' led → Q .next { s with heap := h', toks := tk' }) :
   wpAny (model PySem.Challenge.rw_ke0006_01.row.prog w) (ktrTop dp un gd (Str.ofString "law") lawScope L a (.ref 408) [(Str.ofString "without", c8), (Str.ofString "v", c7), (Str.ofString "table", c6), (Str.ofString "pos", c5), (Str.ofString "off", c4), (Str.ofString "kind", c3), (Str.ofString "flags", c2), (Str.ofString "data", c1)] []) (execs lawH (envX (Str.ofString "law") lawScope L a (.ref 408) [(Str.ofString "without", c8), (Str.ofString "v", c7), (Str.ofString "table", c6), (Str.ofString "pos", c5), (Str.ofString "off", c4), (Str.ofString "kind", c3), (Str.ofString "flags", c2), (Str.ofString "data", c1)])) Q E s := by
  revert X; k_fill; intro X
  show wpAny _ _ (execs [_] _) _ _ _
  k_steps
  all_goals (first | exact hret _ _ _ (by assumption) (by assumption) (cb_drop (by assumption) (by kcj_in)))
end
theorem kw54 : True := by
  w_top off
  k_with_none
  k_with "k_ne" => ((try dsimp only); with_reducible first | exact Nat.ne_of_lt (by k_extra "mine lt") | exact Nat.ne_of_gt (by k_extra "mine lt") | fail)
  k_with "mine lt" => (first | assumption | (refine Nat.lt_trans (by assumption) ?_; k_extra "mine lt"))
  k_with "mine rb" => ((case zzkB => k_asm); (case zzkF => k_asm); (case zzkX => k_asm); (case zzkN => k_asm); (case zzkT => k_asm); (case zzkf => first | k_dflt exact rfl | assumption); (case zzkd => first | decide | ktr_room); (case zzku => first | decide +kernel | ktr_units))
  k_with "mine ra" => ((case zzkB => k_asm); (case zzkF => k_asm); (case zzkX => k_asm); (case zzkN => k_asm); (case zzkT => k_asm); (case zzkf => first | exact rfl | assumption); (case zzkd => ktr_room); (case zzku => ktr_units))
  k_with "mine name" => (first | (name_kind "local"; refine' nameX_L (by k_asm) (by exact rfl) ?_ (by kernel_rfl) (by kernel_rfl) (by kernel_rfl); k_whole) | (name_kind "globalImplicit"; refine' nameX_K (by k_asm) (by k_asm) (by k_asm) (by k_is) ?_ (by kernel_rfl) (by kernel_rfl) (by kernel_rfl); k_whole) | (name_kind "globalImplicit"; refine' nameX_B (by k_asm) (by k_asm) (by k_asm) (by k_is) (by boot_fast) (by decide) ?_ (by kernel_rfl) (by kernel_rfl) (by kernel_rfl); k_whole))
  k_with "m eval Name" => (k_here; k_dflt k_extra "mine name")
  k_with "k_room" => (ktr_room)
  k_with "k_units" => (ktr_units)
  k_with "m getMethod ref" => (k_here; (with_reducible show wpAny _ _ (getMethod (Value.ref _) (PySem.Str.ofString "unpack_from") _) _ _ _); (refine' method_unpack ?zzhP ?_; (case zzhP => exact (Frag.In.keeps (by k_asm) (Fr.keep (by k_asm))) _ _ (by assumption)); k_whole))
  k_with "m call builtin:_struct.Struct.unpack_from" => (k_here; ((focus (refine' unpack_call ?zzhh ?zzF ?zzN ?zzhP ?zzhd ?zzPK ?zzh0 ?zzh1 ?zzhb ?zzhw (fun hin9 T'9 t'9 h'9 tk'9 F'9 N'9 l19 => ?_) (fun hin9 h'9 tk'9 e'9 x'9 => ?_); (case zzhh => rfl); (case zzF => k_asm); (case zzN => k_asm); (case zzhP => exact (Frag.In.keeps (by k_asm) (Fr.keep (by k_asm))) _ _ (by assumption)); (case zzhd => exact News.get (by k_asm) (by k_mem)); (case zzPK => assumption); (case zzh0 => assumption); (case zzh1 => omega); (case zzhb => assumption); (case zzhw => assumption); (all_goals ((try k_lt l19))); rotate_left))))
  k_with "m leaving ref" => (k_here; (first | (refine' leave_onX rfl ?zzk1 ?zzk2 ?zzk3 ?zzk4 ?_; (case zzk3 => assumption); (case zzk1 => assumption); (case zzk4 => assumption); (case zzk2 => assumption); k_whole; intro h' R' U'; (try dsimp only at R' U' ⊢)) | (refine' leave_newN ?zzk1 ?zzk0 ?zzk2 ?zzk3 ?_; (case zzk0 => assumption); (case zzk1 => assumption); (case zzk2 => assumption); (case zzk3 => k_asm); k_whole; intro h' R' U'; (try dsimp only at R' U' ⊢)) | (refine' leave_raiseN ?zzk1 ?zzk0 ?zzk2 ?zzk3 ?_; (case zzk0 => first | assumption | (exact Heap.MadeExc.of (by assumption))); (case zzk1 => assumption); (case zzk2 => assumption); (case zzk3 => k_asm); k_whole; intro h' R' U'; (try dsimp only at R' U' ⊢))))
  k_with "m getAttr ref" => (k_here; (first | (refine' cls_val ?zzk1 ?zzk2 ?zzk3 ?zzk4 ?zzk5 ?zzk6 ?_; (case zzk1 => k_asm); (case zzk2 => k_asm); (case zzk3 => exact Flag.ty (by assumption)); (case zzk4 => exact Flag.rd (by assumption)); (case zzk5 => first | (exact Flag.mn (by assumption)) | (exact Flag.mx (by assumption)) | (exact Flag.pkt (by assumption)) | assumption); (case zzk6 => rfl); k_whole) | (refine' cls_pyt ?zzX ?zzr ?zza ?zzb ?zzT ?_; (case zza => exact Flag.pyt (by assumption)); (case zzX => exact (Frag.In.keeps (by k_asm) (Fr.keep (by k_asm)))); (case zzr => exact Flag.rd (by assumption)); (case zzb => exact Flag.pym (by assumption)); (case zzT => first | exact FF.mt_int | exact FF.mt_bool | assumption); k_whole)))
  k_with "m compareOp LtE bool int" => (refine le_bool_int ?_)
  k_with "m compareOp LtE int bool" => (refine le_int_bool ?_)
  k_with "m call ref" => (k_here; (first | ((with_reducible show wpAny _ _ (call (Value.ref 220) [Value.int _ _, Value.ref 199]) _ _ _); (focus (k_dflt (refine' (enforce_U ?zzh0 ?zzh1).use ?zzkB ?zzkF ?zzkX ?zzkN ?zzkT ?zzkf ?zzkd ?zzku ⟨(fun hc9 t'9 h'9 tk'9 F'9 N'9 => ?_), (fun hc9 e'9 g'9 h'9 tk'9 FG'9 U'9 R'9 => ?_)⟩); (k_extra "mine ra"); (case zzh0 => first | assumption | omega); (case zzh1 => first | assumption | omega); (all_goals ((try (exfalso; omega)))); rotate_left))) | ((with_reducible show wpAny _ _ (call (Value.ref 220) [Value.int _ _, Value.ref 211]) _ _ _); (focus (k_dflt (refine' (enforce_V ?zzh0 ?zzh1).use ?zzkB ?zzkF ?zzkX ?zzkN ?zzkT ?zzkf ?zzkd ?zzku ⟨(fun hc9 t'9 h'9 tk'9 F'9 N'9 => ?_), (fun hc9 e'9 g'9 h'9 tk'9 FG'9 U'9 R'9 => ?_)⟩); (k_extra "mine ra"); (case zzh0 => first | assumption | omega); (case zzh1 => first | assumption | omega); (all_goals ((try (exfalso; omega)))); rotate_left))) | ((with_reducible show wpAny _ _ (call (Value.ref 220) [Value.int _ _, Value.ref _]) _ _ _); (focus (k_dflt (refine' (enforce_k ?zzhK ?zzhk ?zzh0 ?zzh1).use ?zzkB ?zzkF ?zzkX ?zzkN ?zzkT ?zzkf ?zzkd ?zzku ⟨(fun hc9 t'9 h'9 tk'9 F'9 N'9 => ?_), (fun hc9 e'9 g'9 h'9 tk'9 FG'9 U'9 R'9 => ?_)⟩; (case zzhK => assumption); (case zzhk => assumption)); (k_extra "mine ra"); (case zzh0 => first | assumption | omega); (case zzh1 => first | assumption | omega); (all_goals ((try (exfalso; omega)))); rotate_left)))))
  k_with "m getMethod ref" => (k_here; (with_reducible show wpAny _ _ (getMethod (Value.ref _) (PySem.Str.ofString "py_type") _) _ _ _); (refine' method_of_cls ?zzF ?zzX ?zzg ?_; (case zzF => k_asm); (case zzX => k_asm); (case zzg => exact Flag.sp (by assumption)); k_whole))
  k_with "m call ref" => (k_here; (first | ((with_reducible show wpAny _ _ (call (Value.ref 227) [Value.ref 46, Value.ref _, Value.int _ _]) _ _ _); k_dflt (refine' (get_encode_U ?zzh0 ?zzh1 ?zzhb ?zzhm).use ?zzkB ?zzkF ?zzkX ?zzkN ?zzkT ?zzkf ?zzkd ?zzku ?_); (k_extra "mine rb"); (case zzhm => k_extra "mine mem"); (case zzh0 => first | assumption | omega); (case zzh1 => first | assumption | omega); (case zzhb => assumption); (first | ((focus (refine saysRet_bool (fun i9 hv9 t'9 h'9 tk'9 F'9 N'9 => ?_) (fun hv9 e'9 g'9 h'9 tk'9 FG'9 U'9 R'9 => ?_); rotate_left))) | ((focus (refine saysRet_int ?zzhk ?zzhn (fun i9 hv9 hi9 t'9 h'9 tk'9 F'9 N'9 => ?_) (fun hv9 e'9 g'9 h'9 tk'9 FG'9 U'9 R'9 => ?_); (case zzhk => first | assumption | omega | decide); (case zzhn => first | assumption | omega); (all_goals ((try simp only [loK, hiK] at hi9))); rotate_left))))) | ((with_reducible show wpAny _ _ (call (Value.ref 227) [Value.ref _, Value.ref _, Value.int _ _]) _ _ _); k_dflt (refine' (get_encode ?zzhP ?zzPK ?zzh0 ?zzh1 ?zzhb ?zzhw ?zzhm).use ?zzkB ?zzkF ?zzkX ?zzkN ?zzkT ?zzkf ?zzkd ?zzku ?_; (case zzhP => assumption); (case zzPK => assumption); (case zzhw => assumption)); (k_extra "mine rb"); (case zzhm => k_extra "mine mem"); (case zzh0 => first | assumption | omega); (case zzh1 => first | assumption | omega); (case zzhb => assumption); (first | ((focus (refine saysRet_bool (fun i9 hv9 t'9 h'9 tk'9 F'9 N'9 => ?_) (fun hv9 e'9 g'9 h'9 tk'9 FG'9 U'9 R'9 => ?_); rotate_left))) | ((focus (refine saysRet_int ?zzhk ?zzhn (fun i9 hv9 hi9 t'9 h'9 tk'9 F'9 N'9 => ?_) (fun hv9 e'9 g'9 h'9 tk'9 FG'9 U'9 R'9 => ?_); (case zzhk => first | assumption | omega | decide); (case zzhn => first | assumption | omega); (all_goals ((try simp only [loK, hiK] at hi9))); rotate_left)))))))
  k_with "m call ref" => (k_here; (first | ((with_reducible show wpAny _ _ (call (Value.ref 291) [Value.ref _, Value.ref 187, Value.int _ _]) _ _ _); k_dflt (refine' (get_S ?zzh0 ?zzh1 ?zzhb ?zzm1 ?zzm2 ?zzm3).use ?zzkB ?zzkF ?zzkX ?zzkN ?zzkT ?zzkf ?zzkd ?zzku ?_); (k_extra "mine rb"); (case zzm1 => k_extra "mine mem"); (case zzm2 => k_extra "mine mem"); (case zzm3 => k_extra "mine mem"); (case zzh0 => first | assumption | omega); (case zzh1 => first | assumption | omega); (case zzhb => assumption); (focus (refine saysRet_reads (by decide) (fun i9 hv9 hr9 hi9 t'9 h'9 tk'9 F'9 N'9 => ?_) (fun hv9 hr9 e'9 g'9 h'9 tk'9 FG'9 U'9 R'9 => ?_) (fun hv9 hr9 e'9 g'9 h'9 tk'9 FG'9 U'9 R'9 => ?_); (all_goals ((try simp only [loK, hiK] at hi9); (try (exfalso; omega))))))) | ((with_reducible show wpAny _ _ (call (Value.ref 291) [Value.ref _, Value.ref 199, Value.int _ _]) _ _ _); k_dflt (refine' (get_U ?zzh0 ?zzh1 ?zzhb ?zzm1 ?zzm2 ?zzm3).use ?zzkB ?zzkF ?zzkX ?zzkN ?zzkT ?zzkf ?zzkd ?zzku ?_); (k_extra "mine rb"); (case zzm1 => k_extra "mine mem"); (case zzm2 => k_extra "mine mem"); (case zzm3 => k_extra "mine mem"); (case zzh0 => first | assumption | omega); (case zzh1 => first | assumption | omega); (case zzhb => assumption); (focus (refine saysRet_reads (by decide) (fun i9 hv9 hr9 hi9 t'9 h'9 tk'9 F'9 N'9 => ?_) (fun hv9 hr9 e'9 g'9 h'9 tk'9 FG'9 U'9 R'9 => ?_) (fun hv9 hr9 e'9 g'9 h'9 tk'9 FG'9 U'9 R'9 => ?_); (all_goals ((try simp only [loK, hiK] at hi9); (try (exfalso; omega))))))) | ((with_reducible show wpAny _ _ (call (Value.ref 291) [Value.ref _, Value.ref 211, Value.int _ _]) _ _ _); k_dflt (refine' (get_V ?zzh0 ?zzh1 ?zzhb ?zzm1 ?zzm2 ?zzm3).use ?zzkB ?zzkF ?zzkX ?zzkN ?zzkT ?zzkf ?zzkd ?zzku ?_); (k_extra "mine rb"); (case zzm1 => k_extra "mine mem"); (case zzm2 => k_extra "mine mem"); (case zzm3 => k_extra "mine mem"); (case zzh0 => first | assumption | omega); (case zzh1 => first | assumption | omega); (case zzhb => assumption); (focus (refine saysRet_reads (by decide) (fun i9 hv9 hr9 hi9 t'9 h'9 tk'9 F'9 N'9 => ?_) (fun hv9 hr9 e'9 g'9 h'9 tk'9 FG'9 U'9 R'9 => ?_) (fun hv9 hr9 e'9 g'9 h'9 tk'9 FG'9 U'9 R'9 => ?_); (all_goals ((try simp only [loK, hiK] at hi9); (try (exfalso; omega)))))))))
  k_with "mine end" => ((rename SaysRet _ _ _ _ _ _ _ _ _ _ => hR); (first | (exact hR.int (by k_extra "mine eq") _ _ _ (by assumption) (by first | assumption | exact cb_drop (by assumption) (by kcj_in))) | (exact hR.bytes (by k_extra "mine eq") _ _ _ (by assumption) (by first | assumption | exact cb_drop (by assumption) (by kcj_in))) | (exact hR.bool (by k_extra "mine eq") 0 _ _ (by assumption) (by first | assumption | exact cb_drop (by assumption) (by kcj_in))) | (exact hR.typ (by k_extra "mine eq") _ _ _ _ (by assumption) (by assumption) (by first | assumption | exact raisedSN_weak (by assumption) (by kcj_in))) | (exact hR.fin (by k_extra "mine eq") _ _ _ _ (by assumption) (by assumption) (by first | assumption | exact raisedSN_weak (by assumption) (by kcj_in)))))
  k_with "m call ref" => (k_here; (with_reducible show wpAny _ _ (call (Value.ref 249) [Value.ref _, Value.int _ _]) _ _ _); k_dflt (refine' (offset_ok ?zzh0 ?zzh1 ?zzh2 ?zzh3 ?zzhb ?zzm1 ?zzm2 ?zzm3).use ?zzkB ?zzkF ?zzkX ?zzkN ?zzkT ?zzkf ?zzkd ?zzku ?_); (k_extra "mine rb"); (case zzm1 => k_extra "mine mem"); (case zzm2 => k_extra "mine mem"); (case zzm3 => k_extra "mine mem"); (case zzh0 => first | assumption | omega); (case zzh1 => first | assumption | omega); (case zzh2 => first | assumption | omega); (case zzh3 => first | assumption | omega); (case zzhb => assumption); refine saysRet_row (fun i9 hv9 hi9 t'9 h'9 tk'9 F'9 N'9 => ?_) (fun hv9 e'9 g'9 h'9 tk'9 FG'9 U'9 R'9 => ?_) (fun hv9 e'9 g'9 h'9 tk'9 FG'9 U'9 R'9 => ?_))
  k_with "m call ref" => (k_here; (first | ((with_reducible show wpAny _ _ (call (Value.ref 220) [Value.int _ _, Value.ref 199]) _ _ _); k_dflt (refine' (enforce_U ?zzh0 ?zzh1).use ?zzkB ?zzkF ?zzkX ?zzkN ?zzkT ?zzkf ?zzkd ?zzku ?_); (k_extra "mine rb"); (case zzh0 => first | assumption | omega); (case zzh1 => first | assumption | omega); (focus (refine ⟨(fun hc9 t'9 h'9 tk'9 F'9 N'9 => ?_), (fun hc9 e'9 g'9 h'9 tk'9 FG'9 U'9 R'9 => ?_)⟩; (all_goals ((try (exfalso; omega)))); rotate_left))) | ((with_reducible show wpAny _ _ (call (Value.ref 220) [Value.int _ _, Value.ref 211]) _ _ _); k_dflt (refine' (enforce_V ?zzh0 ?zzh1).use ?zzkB ?zzkF ?zzkX ?zzkN ?zzkT ?zzkf ?zzkd ?zzku ?_); (k_extra "mine rb"); (case zzh0 => first | assumption | omega); (case zzh1 => first | assumption | omega); (focus (refine ⟨(fun hc9 t'9 h'9 tk'9 F'9 N'9 => ?_), (fun hc9 e'9 g'9 h'9 tk'9 FG'9 U'9 R'9 => ?_)⟩; (all_goals ((try (exfalso; omega)))); rotate_left))) | ((with_reducible show wpAny _ _ (call (Value.ref 220) [Value.int _ _, Value.ref _]) _ _ _); k_dflt (refine' (enforce_k ?zzhK ?zzhk ?zzh0 ?zzh1).use ?zzkB ?zzkF ?zzkX ?zzkN ?zzkT ?zzkf ?zzkd ?zzku ?_; (case zzhK => assumption); (case zzhk => first | assumption | omega)); (k_extra "mine rb"); (case zzh0 => first | assumption | omega); (case zzh1 => first | assumption | omega); (focus (refine ⟨(fun hc9 t'9 h'9 tk'9 F'9 N'9 => ?_), (fun hc9 e'9 g'9 h'9 tk'9 FG'9 U'9 R'9 => ?_)⟩; (all_goals ((try (exfalso; omega)))); rotate_left)))))
  k_with "m call ref" => (k_here; (first | ((with_reducible show wpAny _ _ (call (Value.ref 291) [Value.ref _, Value.ref 187, Value.int _ _]) _ _ _); fail) | ((with_reducible show wpAny _ _ (call (Value.ref 291) [Value.ref _, Value.ref 199, Value.int _ _]) _ _ _); fail) | ((with_reducible show wpAny _ _ (call (Value.ref 291) [Value.ref _, Value.ref 211, Value.int _ _]) _ _ _); fail) | ((with_reducible show wpAny _ _ (call (Value.ref 291) [Value.ref _, Value.ref _, Value.int _ _]) _ _ _); k_dflt (refine' (get_okN ?zzhK ?zzhk0 ?zzhw ?zzh0 ?zzh1 ?zzhb ?zzm1 ?zzm2 ?zzm3).use ?zzkB ?zzkF ?zzkX ?zzkN ?zzkT ?zzkf ?zzkd ?zzku ?_; (case zzhK => assumption); (case zzhk0 => assumption); (case zzhw => exact wdK_le _)); (k_extra "mine rb"); (case zzm1 => k_extra "mine mem"); (case zzm2 => k_extra "mine mem"); (case zzm3 => k_extra "mine mem"); (case zzh0 => first | assumption | omega); (case zzh1 => first | assumption | omega); (case zzhb => assumption); (focus (refine saysRet_reads (by assumption) (fun i9 hv9 hr9 hi9 t'9 h'9 tk'9 F'9 N'9 => ?_) (fun hv9 hr9 e'9 g'9 h'9 tk'9 FG'9 U'9 R'9 => ?_) (fun hv9 hr9 e'9 g'9 h'9 tk'9 FG'9 U'9 R'9 => ?_); (all_goals ((try (exfalso; omega))))))) | ((with_reducible show wpAny _ _ (call (Value.ref 291) [Value.ref _, Value.ref _, Value.int _ _]) _ _ _); k_dflt (refine' (get_ok0 ?zzhK ?zzh0 ?zzh1 ?zzhb ?zzm1 ?zzm2 ?zzm3).use ?zzkB ?zzkF ?zzkX ?zzkN ?zzkT ?zzkf ?zzkd ?zzku ?_; (case zzhK => assumption)); (k_extra "mine rb"); (case zzm1 => k_extra "mine mem"); (case zzm2 => k_extra "mine mem"); (case zzm3 => k_extra "mine mem"); (case zzh0 => first | assumption | omega); (case zzh1 => first | assumption | omega); (case zzhb => assumption); (focus (refine saysRet_reads0 (fun i9 hv9 hr9 t'9 h'9 tk'9 F'9 N'9 => ?_) (fun hv9 hr9 e'9 g'9 h'9 tk'9 FG'9 U'9 R'9 => ?_) (fun hv9 hr9 e'9 g'9 h'9 tk'9 FG'9 U'9 R'9 => ?_); (all_goals ((try (exfalso; omega)))))))))
  k_with "m call ref" => (k_here; (first | ((with_reducible show wpAny _ _ (call (Value.ref 220) [Value.bool _, Value.ref 61]) _ _ _); k_dflt (refine' (enforce_bb).use ?zzkB ?zzkF ?zzkX ?zzkN ?zzkT ?zzkf ?zzkd ?zzku ⟨?_, fun hc => (hc trivial).elim⟩); (k_extra "mine rb"); (intro hc t' h' tk' F' N')) | ((with_reducible show wpAny _ _ (call (Value.ref 220) [Value.int _ _, Value.ref 61]) _ _ _); k_dflt (refine' (enforce_bi ?zzhn).use ?zzkB ?zzkF ?zzkX ?zzkN ?zzkT ?zzkf ?zzkd ?zzku ⟨fun hc => hc.elim, ?_⟩; (case zzhn => assumption)); (k_extra "mine rb"); (intro hc e' g' h' tk' FG' U' R'))))
  k_with "mine mem" => (with_reducible first | assumption | exact List.mem_cons_self | (refine List.mem_cons_of_mem _ ?_; k_extra "mine mem"))
  k_with "k_mem" => (k_extra "mine mem")
  k_with "mine eq" => (assumption)
  k_with "m call ref" => (k_here; (with_reducible show wpAny _ _ (call (Value.ref 320) _) _ _ _); k_dflt (refine' (kinds_ok).use ?zzkB ?zzkF ?zzkX ?zzkN ?zzkT ?zzkf ?zzkd ?zzku ?_); (k_extra "mine rb"); intro l' D' h' tk' F' N' K')
  k_with "m subscriptTail" => (k_here; (with_reducible show wpAny _ _ (subscriptTail _ _ (Value.ref _) (Value.int _ _)) _ _ _); (with_unfolding_all (refine' kinds_item ?zzN ?zzm ?zzK ?zzh0 ?zzh1 ?zzhW ?_ ?zzhs); (case zzN => k_asm); (case zzm => k_extra "mine mem"); (case zzK => k_asm); (case zzh0 => first | assumption | omega); (case zzh1 => first | assumption | omega); (case zzhW => first | assumption | exact rfl); (case zzhs => with_unfolding_all rfl); k_whole); intro a' b' c' N')
  k_with "m UnrEnd" => (k_dflt (refine' unrEnd_tail ?zzF ?zzN ?zzoff ?_; (case zzF => k_asm); (case zzN => k_asm); (case zzoff => exact fun p hp => Nat.ne_of_lt (ktn_ltOf (by assumption) p hp)); k_whole))
  k_with "m call ref" => (k_here; (with_reducible show wpAny _ _ (call (Value.ref 339) _) _ _ _); k_dflt (refine' (number_ok ?zzh0 ?zzh1 ?zzhk0 ?zzhk1 ?zzhb ?zzhi ?zzm1).use ?zzkB ?zzkF ?zzkX ?zzkN ?zzkT ?zzkf ?zzkd ?zzku ?_); (k_extra "mine rb"); (case zzm1 => k_extra "mine mem"); (case zzhi => assumption); (case zzhb => assumption); (case zzh0 => first | assumption | omega); (case zzh1 => first | assumption | omega); (case zzhk0 => first | assumption | omega); (case zzhk1 => first | assumption | omega); (focus (refine rets_rd ?zzz (fun i9 hv9 hb9 t'9 h'9 tk'9 F'9 N'9 => ?_) (fun i9 hv9 t'9 h'9 tk'9 F'9 N'9 => ?_) (fun hv9 t'9 h'9 tk'9 F'9 N'9 => ?_); (case zzz => first | assumption | omega); (all_goals ((try simp only [Int.reduceToNat, loK, hiK] at hv9 hb9); (try simp only [Int.reduceToNat] at hv9); (try (exfalso; exact rd3_nobool hv9)))))))
  k_with "mine end" => ((rename Rets _ _ _ _ _ _ _ => hR); (first | (exact rets_int hR (by k_extra "mine eq") _ _ _ (by assumption) (by first | assumption | exact cb_drop (by assumption) (by kcj_in))) | (exact rets_typ hR (by k_extra "mine eq") _ _ _ (by assumption) (by first | assumption | exact cb_drop (by assumption) (by kcj_in))) | (exact rets_fin hR (by k_extra "mine eq") _ _ _ (by assumption) (by first | assumption | exact cb_drop (by assumption) (by kcj_in))) | (exact rets_bytes hR (by k_extra "mine eq") _ _ _ (by assumption) (by first | assumption | exact cb_drop (by assumption) (by kcj_in))) | (exact rets_bool hR (by k_extra "mine eq") 0 _ _ (by assumption) (by first | assumption | exact cb_drop (by assumption) (by kcj_in)))))
  k_with "m call ref" => (k_here; (with_reducible show wpAny _ _ (call (Value.ref 346) _) _ _ _); k_dflt (refine' (held_ok ?zzh0 ?zzh1 ?zzhk0 ?zzhk1 ?zzhb ?zzhi ?zzm1).use ?zzkB ?zzkF ?zzkX ?zzkN ?zzkT ?zzkf ?zzkd ?zzku ?_); (k_extra "mine rb"); (case zzm1 => k_extra "mine mem"); (case zzhi => assumption); (case zzhb => assumption); (case zzh0 => first | assumption | omega); (case zzh1 => first | assumption | omega); (case zzhk0 => first | assumption | omega); (case zzhk1 => first | assumption | omega); (first | ((focus (refine rets_reads ?zzz (fun i9 hv9 hr9 hb9 t'9 h'9 tk'9 F'9 N'9 => ?_) (fun hv9 hr9 t'9 h'9 tk'9 F'9 N'9 => ?_) (fun hv9 hr9 t'9 h'9 tk'9 F'9 N'9 => ?_); (case zzz => decide); (all_goals ((try simp only [Int.reduceToNat, loK, hiK] at hv9 hb9); (try (exfalso; omega)); (try simp only [Int.reduceToNat] at hv9)))))) | (refine rets_reads4 (fun i9 hv9 t'9 h'9 tk'9 F'9 N'9 => ?_) (fun i9 hv9 t'9 h'9 tk'9 F'9 N'9 => ?_) (fun hv9 t'9 h'9 tk'9 F'9 N'9 => ?_) (fun hv9 t'9 h'9 tk'9 F'9 N'9 => ?_)) | ((focus (refine rets_reads ?zzz (fun i9 hv9 hr9 hb9 t'9 h'9 tk'9 F'9 N'9 => ?_) (fun hv9 hr9 t'9 h'9 tk'9 F'9 N'9 => ?_) (fun hv9 hr9 t'9 h'9 tk'9 F'9 N'9 => ?_); (case zzz => first | decide | assumption | omega); (all_goals ((try simp only [Int.reduceToNat, loK, hiK] at hv9 hb9); (try (exfalso; omega)); (try simp only [Int.reduceToNat] at hv9))))))))
  k_with "mine held" => ((focus (refine rets_reads ?zzz (fun i9 hv9 hr9 hb9 t'9 h'9 tk'9 F'9 N'9 => ?_) (fun hv9 hr9 t'9 h'9 tk'9 F'9 N'9 => ?_) (fun hv9 hr9 t'9 h'9 tk'9 F'9 N'9 => ?_); (case zzz => first | decide | assumption | omega); (all_goals ((try simp only [Int.reduceToNat, loK, hiK] at hv9 hb9); (try (exfalso; omega)); (try simp only [Int.reduceToNat] at hv9))))))
  k_with "mine num" => ((focus (refine rets_rd ?zzz (fun i9 hv9 hb9 t'9 h'9 tk'9 F'9 N'9 => ?_) (fun i9 hv9 t'9 h'9 tk'9 F'9 N'9 => ?_) (fun hv9 t'9 h'9 tk'9 F'9 N'9 => ?_); (case zzz => first | assumption | omega); (all_goals ((try simp only [Int.reduceToNat, loK, hiK] at hv9 hb9); (try simp only [Int.reduceToNat] at hv9); (try (exfalso; exact rd3_nobool hv9)))))))
  k_with "m call ref" => (k_here; (first | ((with_reducible show wpAny _ _ (call (Value.ref 353) _) _ _ _); k_dflt (refine' (lrow_ok ?zzh0 ?zzh1 ?zzh2 ?zzh3 ?zzhb ?zzhi ?zzm1).use ?zzkB ?zzkF ?zzkX ?zzkN ?zzkT ?zzkf ?zzkd ?zzku ?_); (k_extra "mine rb"); (case zzm1 => k_extra "mine mem"); (case zzhi => assumption); (case zzhb => assumption); (case zzh0 => first | assumption | omega); (case zzh1 => first | assumption | omega); (case zzh2 => first | assumption | omega); (case zzh3 => first | assumption | omega); refine rets_row (fun i9 hv9 hb9 t'9 h'9 tk'9 F'9 N'9 => ?_) (fun hv9 t'9 h'9 tk'9 F'9 N'9 => ?_) (fun hv9 t'9 h'9 tk'9 F'9 N'9 => ?_)) | ((with_reducible show wpAny _ _ (call (Value.ref 360) _) _ _ _); k_dflt (refine' (lfar_ok ?zzh0 ?zzh1 ?zzhb ?zzhi ?zzm1).use ?zzkB ?zzkF ?zzkX ?zzkN ?zzkT ?zzkf ?zzkd ?zzku ?_); (k_extra "mine rb"); (case zzm1 => k_extra "mine mem"); (case zzhi => assumption); (case zzhb => assumption); (case zzh0 => first | assumption | omega); (case zzh1 => first | assumption | omega); (focus (refine rets_far (fun i9 hv9 hr9 hb9 t'9 h'9 tk'9 F'9 N'9 => ?_) (fun hv9 hr9 t'9 h'9 tk'9 F'9 N'9 => ?_) (fun hv9 hr9 t'9 h'9 tk'9 F'9 N'9 => ?_); (all_goals ((try (exfalso; omega)))))))))
  k_with "mine lrow" => (refine rets_row (fun i9 hv9 hb9 t'9 h'9 tk'9 F'9 N'9 => ?_) (fun hv9 t'9 h'9 tk'9 F'9 N'9 => ?_) (fun hv9 t'9 h'9 tk'9 F'9 N'9 => ?_))
  k_with "mine lfar" => ((focus (refine rets_far (fun i9 hv9 hr9 hb9 t'9 h'9 tk'9 F'9 N'9 => ?_) (fun hv9 hr9 t'9 h'9 tk'9 F'9 N'9 => ?_) (fun hv9 hr9 t'9 h'9 tk'9 F'9 N'9 => ?_); (all_goals ((try (exfalso; omega)))))))
  k_with "mine held" => (refine rets_reads4 (fun i9 hv9 t'9 h'9 tk'9 F'9 N'9 => ?_) (fun i9 hv9 t'9 h'9 tk'9 F'9 N'9 => ?_) (fun hv9 t'9 h'9 tk'9 F'9 N'9 => ?_) (fun hv9 t'9 h'9 tk'9 F'9 N'9 => ?_))
  k_with "mine held" => ((focus (refine rets_reads ?zzz (fun i9 hv9 hr9 hb9 t'9 h'9 tk'9 F'9 N'9 => ?_) (fun hv9 hr9 t'9 h'9 tk'9 F'9 N'9 => ?_) (fun hv9 hr9 t'9 h'9 tk'9 F'9 N'9 => ?_); (case zzz => decide); (all_goals ((try simp only [Int.reduceToNat, loK, hiK] at hv9 hb9); (try (exfalso; omega)); (try simp only [Int.reduceToNat] at hv9))))))
  k_with "m eval Call" => (refine Call_ ?_)
  k_with "m eval Name" => (k_here; (k_dflt first | (name_kind "free"; refine' nameX_F (by k_asm) (by exact rfl) ?zzm ?zzd ?_ (by kernel_rfl) (by exact rfl) (by kernel_rfl) (by kernel_rfl); (case zzm => k_mem); (case zzd => k_asm); k_whole) | (k_extra "mine name")))
  k_with "mine laenter" => (refine' kla_code ?zzk1 ?zzk2 ?zzk3 ?zzk4 ?zzk5 ?zzkA ?zzkF ?zzkK ?zzk6 ?zzk7 ?zzk8 ?zzk9 ?zzkB ?_ ?zzc2 ?zzc3 ?zzc4 ?zzc5; (case zzkA => exact rfl); (case zzkF => exact rfl); (case zzkK => assumption); (case zzk1 => k_asm); (case zzk2 => k_asm); (case zzk3 => k_asm); (case zzk4 => k_asm); (case zzk5 => k_asm); (case zzk6 => assumption); (case zzk7 => exact codeRec_news (by k_asm) (by assumption) (by assumption) (by assumption)); (case zzk8 => ktr_room); (case zzk9 => exact rfl); (case zzc5 => decide); (case zzkB => exact locs rfl); (case zzc2 => exact rfl); (case zzc3 => exact rfl); (case zzc4 => exact rfl); k_whole; intro g' L' h' FG' F' N' B' X' T'; (try dsimp only); (try k_lift B'))
  k_with "mine any" => (refine saysRet_any (fun i9 hv9 t'9 h'9 tk'9 F'9 N'9 => ?_) (fun i9 hv9 t'9 h'9 tk'9 F'9 N'9 => ?_) (fun i9 hv9 t'9 h'9 tk'9 F'9 N'9 => ?_) (fun hv9 e'9 g'9 h'9 tk'9 FG'9 U'9 R'9 => ?_) (fun hv9 e'9 g'9 h'9 tk'9 FG'9 U'9 R'9 => ?_))
  trivial
section
section
variable {Q E : Value → Shared → Prop} {base h₀ : Heap} {L : Addr} {m : Str → Option Value} {fr : List Env} {s : Shared} {news : List (Addr × Obj)} {a : Ans}
theorem saysRet_any (hi : ∀ i, a = .int i → Rets (fun t => .int i t) Q h₀ L m news s) (hb : ∀ i, a = .bool i → Rets (fun _ => .bool i) Q h₀ L m news s) (hy : ∀ i, a = .bytes i → Rets (fun t => .bytes i t) Q h₀ L m news s)
    (ht : a = .typ → Raises "TypeError" E base h₀ L m fr news s) (hf : a = .fin → Raises "struct.error" E base h₀ L m fr news s) : SaysRet news a Q E base h₀ L m fr s := by
  cases a with
  | int i => exact hi i rfl
  | bool i => exact hb i rfl
  | bytes i => exact hy i rfl
  | typ => exact ht rfl
  | fin => exact hf rfl
end
section
variable {w : World} {mean : ExcName → Option Value} {mg mb : Str → Option Value} {p : Program} {loose : List Str} {news : List (Addr × Obj)} {lam c' x dx d c1 c2 c3 c4 c5 c6 c7 c8 C : Addr} {oc o1 o2 o3 o4 o5 o6 o7 o8 : Obj} {ivs : Array Value} {qual : Str} {qt tp tv to tki td : Tok} {pm ctv : Value} {b : Array UInt8} {pos v off kind dd : Int} {k : Nat} {bb : Bool}
theorem lam0 (hc : (c', oc) ∈ news) (hd : oc.data = .fields ivs) (hv : ivs[1]? = some (.str qual qt)) (hb : b.size ≤ 64) (m1 : (x, tabObj' dx d pos tp) ∈ news) (m2 : (dx, dictOf [] 0) ∈ news) (m3 : (d, baObj b) ∈ news)
   (h0 : 0 ≤ pos) (h1 : pos < 48) (h2 : 0 ≤ v) (h3 : v < 24) (h4 : 0 ≤ off) (h5 : off < 24) (n7 : (c7, o7) ∈ news) (d7 : o7.data = .cell (some (.int v tv))) (n6 : (c6, o6) ∈ news) (d6 : o6.data = .cell (some (.ref x)))
   (hfn : (lam, kla_obj "<lambda>" qual (lamArgs 0) (lamBody 0) (lamScope 0) [("v", c7), ("table", c6)] pm c' ctv) ∈ news) :
   Calls w mean mg mb p loose 20 300 (.ref lam) [] news (SaysRet news (rowB b pos v)) := by
  unfold Calls
  k_fill
  intro dp un gd cn cs a ccd cl outer A₀ base h₀ L m s Q E B F X N T hf hd hu hret
  refine wpAny_call ?_
  k_dflt k_extra "mine laenter"
  show wpAny _ _ (eval (.Call (.Attribute _ _ _) _ _ _) _) _ _ _
  k_fold
  k_steps
  all_goals (first | k_extra "mine end")
theorem lam1N (hc : (c', oc) ∈ news) (hd : oc.data = .fields ivs) (hv : ivs[1]? = some (.str qual qt)) (hb : b.size ≤ 64) (m1 : (x, tabObj' dx d pos tp) ∈ news) (m2 : (dx, dictOf [] 0) ∈ news) (m3 : (d, baObj b) ∈ news)
   (h0 : 0 ≤ pos) (h1 : pos < 48) (h2 : 0 ≤ v) (h3 : v < 24) (h4 : 0 ≤ off) (h5 : off < 24) (n6 : (c6, o6) ∈ news) (d6 : o6.data = .cell (some (.ref x))) (n5 : (c5, o5) ∈ news) (d5 : o5.data = .cell (some (.int pos tp))) (n4 : (c4, o4) ∈ news) (d4 : o4.data = .cell (some (.int off to))) (n2 : (c2, o2) ∈ news) (d2 : o2.data = .cell (some (.ref C))) (hK : KindAt w C k) (hk0 : ¬ k = 0) (hC : C ≠ 199) (hC2 : C ≠ 211)
   (hfn : (lam, kla_obj "<lambda>" qual (lamArgs 1) (lamBody 1) (lamScope 1) [("table", c6), ("pos", c5), ("off", c4), ("flags", c2)] pm c' ctv) ∈ news) :
   Calls w mean mg mb p loose 20 300 (.ref lam) [] news (SaysRet news (reads k b (pos + off))) := by
  unfold Calls
  k_fill
  intro dp un gd cn cs a ccd cl outer A₀ base h₀ L m s Q E B F X N T hf hd hu hret
  refine wpAny_call ?_
  k_dflt k_extra "mine laenter"
  show wpAny _ _ (eval (.Call (.Attribute _ _ _) _ _ _) _) _ _ _
  k_fold
  k_steps
  all_goals (first | k_extra "mine end")
theorem lam1Z (hc : (c', oc) ∈ news) (hd : oc.data = .fields ivs) (hv : ivs[1]? = some (.str qual qt)) (hb : b.size ≤ 64) (m1 : (x, tabObj' dx d pos tp) ∈ news) (m2 : (dx, dictOf [] 0) ∈ news) (m3 : (d, baObj b) ∈ news)
   (h0 : 0 ≤ pos) (h1 : pos < 48) (h2 : 0 ≤ v) (h3 : v < 24) (h4 : 0 ≤ off) (h5 : off < 24) (n6 : (c6, o6) ∈ news) (d6 : o6.data = .cell (some (.ref x))) (n5 : (c5, o5) ∈ news) (d5 : o5.data = .cell (some (.int pos tp))) (n4 : (c4, o4) ∈ news) (d4 : o4.data = .cell (some (.int off to))) (n2 : (c2, o2) ∈ news) (d2 : o2.data = .cell (some (.ref C))) (hK : KindAt w C 0)
   (hfn : (lam, kla_obj "<lambda>" qual (lamArgs 1) (lamBody 1) (lamScope 1) [("table", c6), ("pos", c5), ("off", c4), ("flags", c2)] pm c' ctv) ∈ news) :
   Calls w mean mg mb p loose 20 300 (.ref lam) [] news (SaysRet news (reads 0 b (pos + off))) := by
  unfold Calls
  k_fill
  intro dp un gd cn cs a ccd cl outer A₀ base h₀ L m s Q E B F X N T hf hd hu hret
  refine wpAny_call ?_
  k_dflt k_extra "mine laenter"
  show wpAny _ _ (eval (.Call (.Attribute _ _ _) _ _ _) _) _ _ _
  k_fold
  k_steps
  all_goals (first | k_extra "mine end")
end
end
section
section
variable {w : World} {mean : ExcName → Option Value} {mg mb : Str → Option Value} {p : Program} {loose : List Str} {news : List (Addr × Obj)} {lam c' x dx d c1 c2 c3 c4 c5 c6 c7 c8 C : Addr} {oc o1 o2 o3 o4 o5 o6 o7 o8 : Obj} {ivs : Array Value} {qual : Str} {qt tp tv to tki td : Tok} {pm ctv : Value} {b : Array UInt8} {pos v off kind dd : Int} {k : Nat} {bb : Bool}
theorem kw55 : True := by
  w_top off
  k_with "m call ref" => (k_here; (with_reducible show wpAny _ _ (call (Value.ref 298) [Value.ref _, Value.int _ _, Value.int _ _, Value.ref _]) _ _ _); k_dflt (refine' (gslotN_ok ?zzhK ?zzhk0 ?zzhC ?zzhC2 ?zzh0 ?zzh1 ?zzh2 ?zzh3 ?zzh4 ?zzh5 ?zzhb ?zzm1 ?zzm2 ?zzm3).use ?zzkB ?zzkF ?zzkX ?zzkN ?zzkT ?zzkf ?zzkd ?zzku ?_); (k_extra "mine rb"); (case zzhK => assumption); (case zzhk0 => assumption); (case zzhC => assumption); (case zzhC2 => assumption); (case zzm1 => k_extra "mine mem"); (case zzm2 => k_extra "mine mem"); (case zzm3 => k_extra "mine mem"); (case zzh0 => first | assumption | omega); (case zzh1 => first | assumption | omega); (case zzh2 => first | assumption | omega); (case zzh3 => first | assumption | omega); (case zzh4 => first | assumption | omega); (case zzh5 => first | assumption | omega); (case zzhb => assumption); refine saysRet_any (fun i9 hv9 t'9 h'9 tk'9 F'9 N'9 => ?_) (fun i9 hv9 t'9 h'9 tk'9 F'9 N'9 => ?_) (fun i9 hv9 t'9 h'9 tk'9 F'9 N'9 => ?_) (fun hv9 e'9 g'9 h'9 tk'9 FG'9 U'9 R'9 => ?_) (fun hv9 e'9 g'9 h'9 tk'9 FG'9 U'9 R'9 => ?_))
  trivial
theorem lam2N (hc : (c', oc) ∈ news) (hd : oc.data = .fields ivs) (hv : ivs[1]? = some (.str qual qt)) (hb : b.size ≤ 64) (m1 : (x, tabObj' dx d pos tp) ∈ news) (m2 : (dx, dictOf [] 0) ∈ news) (m3 : (d, baObj b) ∈ news)
   (h0 : 0 ≤ pos) (h1 : pos < 48) (h2 : 0 ≤ v) (h3 : v < 24) (h4 : 0 ≤ off) (h5 : off < 24) (n8 : (c8, o8) ∈ news) (d8 : o8.data = .cell (some (.int dd td))) (n7 : (c7, o7) ∈ news) (d7 : o7.data = .cell (some (.int v tv))) (n6 : (c6, o6) ∈ news) (d6 : o6.data = .cell (some (.ref x))) (n2 : (c2, o2) ∈ news) (d2 : o2.data = .cell (some (.ref C))) (hK : KindAt w C k) (hk0 : ¬ k = 0) (hC : C ≠ 199) (hC2 : C ≠ 211) (h8 : -(2 ^ 64 + 2) ≤ dd) (h9 : dd ≤ 2 ^ 64 + 2)
   (hfn : (lam, kla_obj "<lambda>" qual (lamArgs 2) (lamBody 2) (lamScope 2) [("without", c8), ("v", c7), ("table", c6), ("flags", c2)] pm c' ctv) ∈ news) :
   Calls w mean mg mb p loose 20 300 (.ref lam) [] news (SaysRet news (if loK k ≤ dd ∧ dd ≤ hiK k then slotB b pos v (.int dd) k else .typ)) := by
  unfold Calls
  k_fill
  intro dp un gd cn cs a ccd cl outer A₀ base h₀ L m s Q E B F X N T hf hd hu hret
  refine wpAny_call ?_
  k_dflt k_extra "mine laenter"
  show wpAny _ _ (eval (.Call (.Attribute _ _ _) _ _ _) _) _ _ _
  k_fold
  k_steps
  all_goals (first | k_extra "mine end")
theorem kw56 : True := by
  w_top off
  k_with "m call ref" => (k_here; (with_reducible show wpAny _ _ (call (Value.ref 298) [Value.ref _, Value.int _ _, Value.bool _, Value.ref _]) _ _ _); k_dflt (refine' (gslot0_ok ?zzh0 ?zzh1 ?zzh2 ?zzh3 ?zzhb ?zzm1 ?zzm2 ?zzm3).use ?zzkB ?zzkF ?zzkX ?zzkN ?zzkT ?zzkf ?zzkd ?zzku ?_); (k_extra "mine rb"); (case zzm1 => k_extra "mine mem"); (case zzm2 => k_extra "mine mem"); (case zzm3 => k_extra "mine mem"); (case zzh0 => first | assumption | omega); (case zzh1 => first | assumption | omega); (case zzh2 => first | assumption | omega); (case zzh3 => first | assumption | omega); (case zzhb => assumption); refine saysRet_any (fun i9 hv9 t'9 h'9 tk'9 F'9 N'9 => ?_) (fun i9 hv9 t'9 h'9 tk'9 F'9 N'9 => ?_) (fun i9 hv9 t'9 h'9 tk'9 F'9 N'9 => ?_) (fun hv9 e'9 g'9 h'9 tk'9 FG'9 U'9 R'9 => ?_) (fun hv9 e'9 g'9 h'9 tk'9 FG'9 U'9 R'9 => ?_))
  trivial
theorem lam2Z (hc : (c', oc) ∈ news) (hd : oc.data = .fields ivs) (hv : ivs[1]? = some (.str qual qt)) (hb : b.size ≤ 64) (m1 : (x, tabObj' dx d pos tp) ∈ news) (m2 : (dx, dictOf [] 0) ∈ news) (m3 : (d, baObj b) ∈ news)
   (h0 : 0 ≤ pos) (h1 : pos < 48) (h2 : 0 ≤ v) (h3 : v < 24) (h4 : 0 ≤ off) (h5 : off < 24) (n8 : (c8, o8) ∈ news) (d8 : o8.data = .cell (some (.bool bb))) (n7 : (c7, o7) ∈ news) (d7 : o7.data = .cell (some (.int v tv))) (n6 : (c6, o6) ∈ news) (d6 : o6.data = .cell (some (.ref x))) (n2 : (c2, o2) ∈ news) (d2 : o2.data = .cell (some (.ref 61)))
   (hfn : (lam, kla_obj "<lambda>" qual (lamArgs 2) (lamBody 2) (lamScope 2) [("without", c8), ("v", c7), ("table", c6), ("flags", c2)] pm c' ctv) ∈ news) :
   Calls w mean mg mb p loose 20 300 (.ref lam) [] news (SaysRet news (slotB b pos v (.bool bb) 0)) := by
  unfold Calls
  k_fill
  intro dp un gd cn cs a ccd cl outer A₀ base h₀ L m s Q E B F X N T hf hd hu hret
  refine wpAny_call ?_
  k_dflt k_extra "mine laenter"
  show wpAny _ _ (eval (.Call (.Attribute _ _ _) _ _ _) _) _ _ _
  k_fold
  k_steps
  all_goals (first | k_extra "mine end")
end
end
section
section
variable {w : World} {mean : ExcName → Option Value} {mg mb : Str → Option Value} {p : Program} {loose : List Str} {news : List (Addr × Obj)} {lam c' x dx d c1 c2 c3 c4 c5 c6 c7 c8 C : Addr} {oc o1 o2 o3 o4 o5 o6 o7 o8 : Obj} {ivs : Array Value} {qual : Str} {qt tp tv to tki td : Tok} {pm ctv : Value} {b : Array UInt8} {pos v off kind dd : Int} {k : Nat} {bb : Bool}
theorem kw57 : True := by
  w_top off
  k_with "m subscriptTail Call Name nil nil Name ref int" => (k_here; (with_reducible show wpAny _ _ (subscriptTail _ _ (Value.ref _) (Value.int _ _)) _ _ _); (with_unfolding_all (refine' kinds_item ?zzN ?zzm ?zzK ?zzh0 ?zzh1 ?zzhW ?_ ?zzhs); (case zzN => k_asm); (case zzm => k_extra "mine mem"); (case zzK => k_asm); (case zzh0 => first | assumption | omega); (case zzh1 => first | assumption | omega); (case zzhW => first | assumption | exact rfl); (case zzhs => with_unfolding_all rfl); k_whole); intro a' b' c' N')
  k_with "m subscriptTail Subscript" => (k_here; (with_reducible show wpAny _ _ (subscriptTail _ _ (Value.ref _) (Value.int _ _)) _ _ _); k_dflt (refine' item_tupleT ?zzt ?zza ?zzb ?zzc ?zzd ?_; (case zzt => exact News.isTup (by k_asm) (by k_mem)); (case zza => decide); (case zzb => decide); (case zzc => rfl); (case zzd => rfl); k_whole))
  k_with "m call ref" => (k_here; (with_reducible show wpAny _ _ (call (Value.ref 298) [Value.ref _, Value.int _ _, Value.int _ _, Value.ref _]) _ _ _); k_dflt (refine' (gslotN_ok ?zzhK ?zzhk0 ?zzhC ?zzhC2 ?zzh0 ?zzh1 ?zzh2 ?zzh3 ?zzh4 ?zzh5 ?zzhb ?zzm1 ?zzm2 ?zzm3).use ?zzkB ?zzkF ?zzkX ?zzkN ?zzkT ?zzkf ?zzkd ?zzku ?_); (k_extra "mine rb"); (case zzhK => assumption); (case zzhk0 => assumption); (case zzhC => assumption); (case zzhC2 => assumption); (case zzm1 => k_extra "mine mem"); (case zzm2 => k_extra "mine mem"); (case zzm3 => k_extra "mine mem"); (case zzh0 => first | assumption | omega); (case zzh1 => first | assumption | omega); (case zzh2 => first | assumption | omega); (case zzh3 => first | assumption | omega); (case zzh4 => first | assumption | omega); (case zzh5 => first | assumption | omega); (case zzhb => assumption); refine saysRet_any (fun i9 hv9 t'9 h'9 tk'9 F'9 N'9 => ?_) (fun i9 hv9 t'9 h'9 tk'9 F'9 N'9 => ?_) (fun i9 hv9 t'9 h'9 tk'9 F'9 N'9 => ?_) (fun hv9 e'9 g'9 h'9 tk'9 FG'9 U'9 R'9 => ?_) (fun hv9 e'9 g'9 h'9 tk'9 FG'9 U'9 R'9 => ?_))
  trivial
theorem lam3N (hc : (c', oc) ∈ news) (hd : oc.data = .fields ivs) (hv : ivs[1]? = some (.str qual qt)) (hb : b.size ≤ 64) (m1 : (x, tabObj' dx d pos tp) ∈ news) (m2 : (dx, dictOf [] 0) ∈ news) (m3 : (d, baObj b) ∈ news)
   (h0 : 0 ≤ pos) (h1 : pos < 48) (h2 : 0 ≤ v) (h3 : v < 24) (h4 : 0 ≤ off) (h5 : off < 24) (n7 : (c7, o7) ∈ news) (d7 : o7.data = .cell (some (.int v tv))) (n6 : (c6, o6) ∈ news) (d6 : o6.data = .cell (some (.ref x))) (n3 : (c3, o3) ∈ news) (d3 : o3.data = .cell (some (.int kind tki))) (n2 : (c2, o2) ∈ news) (d2 : o2.data = .cell (some (.ref C))) (hK : KindAt w C k) (hk0 : ¬ k = 0) (hC : C ≠ 199) (hC2 : C ≠ 211) (hk1 : 0 ≤ kind) (hk2 : kind < 9) (h8 : -(2 ^ 64 + 2) ≤ kh kind.toNat + 1) (h9 : kh kind.toNat + 1 ≤ 2 ^ 64 + 2)
   (hfn : (lam, kla_obj "<lambda>" qual (lamArgs 3) (lamBody 3) (lamScope 3) [("v", c7), ("table", c6), ("kind", c3), ("flags", c2)] pm c' ctv) ∈ news) :
   Calls w mean mg mb p loose 20 300 (.ref lam) [] news (SaysRet news (if loK k ≤ kh kind.toNat + 1 ∧ kh kind.toNat + 1 ≤ hiK k then slotB b pos v (.int (kh kind.toNat + 1)) k else .typ)) := by
  unfold Calls
  k_fill
  intro dp un gd cn cs a ccd cl outer A₀ base h₀ L m s Q E B F X N T hf hd hu hret
  refine wpAny_call ?_
  k_dflt k_extra "mine laenter"
  show wpAny _ _ (eval (.Call (.Attribute _ _ _) _ _ _) _) _ _ _
  k_fold
  k_steps
  all_goals (first | k_extra "mine end")
theorem lam4N (hc : (c', oc) ∈ news) (hd : oc.data = .fields ivs) (hv : ivs[1]? = some (.str qual qt)) (hb : b.size ≤ 64) (m1 : (x, tabObj' dx d pos tp) ∈ news) (m2 : (dx, dictOf [] 0) ∈ news) (m3 : (d, baObj b) ∈ news)
   (h0 : 0 ≤ pos) (h1 : pos < 48) (h2 : 0 ≤ v) (h3 : v < 24) (h4 : 0 ≤ off) (h5 : off < 24) (n7 : (c7, o7) ∈ news) (d7 : o7.data = .cell (some (.int v tv))) (n6 : (c6, o6) ∈ news) (d6 : o6.data = .cell (some (.ref x))) (n3 : (c3, o3) ∈ news) (d3 : o3.data = .cell (some (.int kind tki))) (n2 : (c2, o2) ∈ news) (d2 : o2.data = .cell (some (.ref C))) (hK : KindAt w C k) (hk0 : ¬ k = 0) (hC : C ≠ 199) (hC2 : C ≠ 211) (hk1 : 0 ≤ kind) (hk2 : kind < 9) (h8 : -(2 ^ 64 + 2) ≤ kl kind.toNat - 1) (h9 : kl kind.toNat - 1 ≤ 2 ^ 64 + 2)
   (hfn : (lam, kla_obj "<lambda>" qual (lamArgs 4) (lamBody 4) (lamScope 4) [("v", c7), ("table", c6), ("kind", c3), ("flags", c2)] pm c' ctv) ∈ news) :
   Calls w mean mg mb p loose 20 300 (.ref lam) [] news (SaysRet news (if loK k ≤ kl kind.toNat - 1 ∧ kl kind.toNat - 1 ≤ hiK k then slotB b pos v (.int (kl kind.toNat - 1)) k else .typ)) := by
  unfold Calls
  k_fill
  intro dp un gd cn cs a ccd cl outer A₀ base h₀ L m s Q E B F X N T hf hd hu hret
  refine wpAny_call ?_
  k_dflt k_extra "mine laenter"
  show wpAny _ _ (eval (.Call (.Attribute _ _ _) _ _ _) _) _ _ _
  k_fold
  k_steps
  all_goals (first | k_extra "mine end")
theorem kw58 : True := by
  w_top off
  k_with "m call ref" => (k_here; (with_reducible show wpAny _ _ (call (Value.ref 298) [Value.ref _, Value.int _ _, Value.int _ _, Value.ref _]) _ _ _); k_dflt (refine' (gslot0_bad ?zzhn ?zzh0 ?zzh1 ?zzh2 ?zzh3 ?zzhb ?zzm1 ?zzm2 ?zzm3).use ?zzkB ?zzkF ?zzkX ?zzkN ?zzkT ?zzkf ?zzkd ?zzku ?_); (k_extra "mine rb"); (case zzhn => first | exact .inl rfl | exact .inr rfl | omega); (case zzm1 => k_extra "mine mem"); (case zzm2 => k_extra "mine mem"); (case zzm3 => k_extra "mine mem"); (case zzh0 => first | assumption | omega); (case zzh1 => first | assumption | omega); (case zzh2 => first | assumption | omega); (case zzh3 => first | assumption | omega); (case zzhb => assumption); refine saysRet_any (fun i9 hv9 t'9 h'9 tk'9 F'9 N'9 => ?_) (fun i9 hv9 t'9 h'9 tk'9 F'9 N'9 => ?_) (fun i9 hv9 t'9 h'9 tk'9 F'9 N'9 => ?_) (fun hv9 e'9 g'9 h'9 tk'9 FG'9 U'9 R'9 => ?_) (fun hv9 e'9 g'9 h'9 tk'9 FG'9 U'9 R'9 => ?_))
  trivial
theorem lam3Z (hc : (c', oc) ∈ news) (hd : oc.data = .fields ivs) (hv : ivs[1]? = some (.str qual qt)) (hb : b.size ≤ 64) (m1 : (x, tabObj' dx d pos tp) ∈ news) (m2 : (dx, dictOf [] 0) ∈ news) (m3 : (d, baObj b) ∈ news)
   (h0 : 0 ≤ pos) (h1 : pos < 48) (h2 : 0 ≤ v) (h3 : v < 24) (h4 : 0 ≤ off) (h5 : off < 24) (n7 : (c7, o7) ∈ news) (d7 : o7.data = .cell (some (.int v tv))) (n6 : (c6, o6) ∈ news) (d6 : o6.data = .cell (some (.ref x))) (n3 : (c3, o3) ∈ news) (d3 : o3.data = .cell (some (.int 0 tki))) (n2 : (c2, o2) ∈ news) (d2 : o2.data = .cell (some (.ref 61)))
   (hfn : (lam, kla_obj "<lambda>" qual (lamArgs 3) (lamBody 3) (lamScope 3) [("v", c7), ("table", c6), ("kind", c3), ("flags", c2)] pm c' ctv) ∈ news) :
   Calls w mean mg mb p loose 20 300 (.ref lam) [] news (SaysRet news (.typ)) := by
  unfold Calls
  k_fill
  intro dp un gd cn cs a ccd cl outer A₀ base h₀ L m s Q E B F X N T hf hd hu hret
  refine wpAny_call ?_
  k_dflt k_extra "mine laenter"
  show wpAny _ _ (eval (.Call (.Attribute _ _ _) _ _ _) _) _ _ _
  k_fold
  k_steps
  all_goals (first | k_extra "mine end")
theorem lam4Z (hc : (c', oc) ∈ news) (hd : oc.data = .fields ivs) (hv : ivs[1]? = some (.str qual qt)) (hb : b.size ≤ 64) (m1 : (x, tabObj' dx d pos tp) ∈ news) (m2 : (dx, dictOf [] 0) ∈ news) (m3 : (d, baObj b) ∈ news)
   (h0 : 0 ≤ pos) (h1 : pos < 48) (h2 : 0 ≤ v) (h3 : v < 24) (h4 : 0 ≤ off) (h5 : off < 24) (n7 : (c7, o7) ∈ news) (d7 : o7.data = .cell (some (.int v tv))) (n6 : (c6, o6) ∈ news) (d6 : o6.data = .cell (some (.ref x))) (n3 : (c3, o3) ∈ news) (d3 : o3.data = .cell (some (.int 0 tki))) (n2 : (c2, o2) ∈ news) (d2 : o2.data = .cell (some (.ref 61)))
   (hfn : (lam, kla_obj "<lambda>" qual (lamArgs 4) (lamBody 4) (lamScope 4) [("v", c7), ("table", c6), ("kind", c3), ("flags", c2)] pm c' ctv) ∈ news) :
   Calls w mean mg mb p loose 20 300 (.ref lam) [] news (SaysRet news (.typ)) := by
  unfold Calls
  k_fill
  intro dp un gd cn cs a ccd cl outer A₀ base h₀ L m s Q E B F X N T hf hd hu hret
  refine wpAny_call ?_
  k_dflt k_extra "mine laenter"
  show wpAny _ _ (eval (.Call (.Attribute _ _ _) _ _ _) _) _ _ _
  k_fold
  k_steps
  all_goals (first | k_extra "mine end")
end
end
theorem kw59 : True := by
  w_top off
  k_with_none
  k_with "k_ne" => ((try dsimp only); with_reducible first | exact Nat.ne_of_lt (by k_extra "mine lt") | exact Nat.ne_of_gt (by k_extra "mine lt") | fail)
  k_with "mine lt" => (first | assumption | (refine Nat.lt_trans (by assumption) ?_; k_extra "mine lt"))
  k_with "mine rb" => ((case zzkB => k_asm); (case zzkF => k_asm); (case zzkX => k_asm); (case zzkN => k_asm); (case zzkT => k_asm); (case zzkf => first | k_dflt exact rfl | assumption); (case zzkd => first | decide | ktr_room); (case zzku => first | decide +kernel | ktr_units))
  k_with "mine ra" => ((case zzkB => k_asm); (case zzkF => k_asm); (case zzkX => k_asm); (case zzkN => k_asm); (case zzkT => k_asm); (case zzkf => first | exact rfl | assumption); (case zzkd => ktr_room); (case zzku => ktr_units))
  k_with "mine name" => (first | (name_kind "local"; refine' nameX_L (by k_asm) (by exact rfl) ?_ (by kernel_rfl) (by kernel_rfl) (by kernel_rfl); k_whole) | (name_kind "globalImplicit"; refine' nameX_K (by k_asm) (by k_asm) (by k_asm) (by k_is) ?_ (by kernel_rfl) (by kernel_rfl) (by kernel_rfl); k_whole) | (name_kind "globalImplicit"; refine' nameX_B (by k_asm) (by k_asm) (by k_asm) (by k_is) (by boot_fast) (by decide) ?_ (by kernel_rfl) (by kernel_rfl) (by kernel_rfl); k_whole))
  k_with "m eval Name" => (k_here; k_dflt k_extra "mine name")
  k_with "k_room" => (ktr_room)
  k_with "k_units" => (ktr_units)
  k_with "m getMethod ref" => (k_here; (with_reducible show wpAny _ _ (getMethod (Value.ref _) (PySem.Str.ofString "unpack_from") _) _ _ _); (refine' method_unpack ?zzhP ?_; (case zzhP => exact (Frag.In.keeps (by k_asm) (Fr.keep (by k_asm))) _ _ (by assumption)); k_whole))
  k_with "m call builtin:_struct.Struct.unpack_from" => (k_here; ((focus (refine' unpack_call ?zzhh ?zzF ?zzN ?zzhP ?zzhd ?zzPK ?zzh0 ?zzh1 ?zzhb ?zzhw (fun hin9 T'9 t'9 h'9 tk'9 F'9 N'9 l19 => ?_) (fun hin9 h'9 tk'9 e'9 x'9 => ?_); (case zzhh => rfl); (case zzF => k_asm); (case zzN => k_asm); (case zzhP => exact (Frag.In.keeps (by k_asm) (Fr.keep (by k_asm))) _ _ (by assumption)); (case zzhd => exact News.get (by k_asm) (by k_mem)); (case zzPK => assumption); (case zzh0 => assumption); (case zzh1 => omega); (case zzhb => assumption); (case zzhw => assumption); (all_goals ((try k_lt l19))); rotate_left))))
  k_with "m leaving ref" => (k_here; (first | (refine' leave_onX rfl ?zzk1 ?zzk2 ?zzk3 ?zzk4 ?_; (case zzk3 => assumption); (case zzk1 => assumption); (case zzk4 => assumption); (case zzk2 => assumption); k_whole; intro h' R' U'; (try dsimp only at R' U' ⊢)) | (refine' leave_newN ?zzk1 ?zzk0 ?zzk2 ?zzk3 ?_; (case zzk0 => assumption); (case zzk1 => assumption); (case zzk2 => assumption); (case zzk3 => k_asm); k_whole; intro h' R' U'; (try dsimp only at R' U' ⊢)) | (refine' leave_raiseN ?zzk1 ?zzk0 ?zzk2 ?zzk3 ?_; (case zzk0 => first | assumption | (exact Heap.MadeExc.of (by assumption))); (case zzk1 => assumption); (case zzk2 => assumption); (case zzk3 => k_asm); k_whole; intro h' R' U'; (try dsimp only at R' U' ⊢))))
  k_with "m getAttr ref" => (k_here; (first | (refine' cls_val ?zzk1 ?zzk2 ?zzk3 ?zzk4 ?zzk5 ?zzk6 ?_; (case zzk1 => k_asm); (case zzk2 => k_asm); (case zzk3 => exact Flag.ty (by assumption)); (case zzk4 => exact Flag.rd (by assumption)); (case zzk5 => first | (exact Flag.mn (by assumption)) | (exact Flag.mx (by assumption)) | (exact Flag.pkt (by assumption)) | assumption); (case zzk6 => rfl); k_whole) | (refine' cls_pyt ?zzX ?zzr ?zza ?zzb ?zzT ?_; (case zza => exact Flag.pyt (by assumption)); (case zzX => exact (Frag.In.keeps (by k_asm) (Fr.keep (by k_asm)))); (case zzr => exact Flag.rd (by assumption)); (case zzb => exact Flag.pym (by assumption)); (case zzT => first | exact FF.mt_int | exact FF.mt_bool | assumption); k_whole)))
  k_with "m compareOp LtE bool int" => (refine le_bool_int ?_)
  k_with "m compareOp LtE int bool" => (refine le_int_bool ?_)
  k_with "m call ref" => (k_here; (first | ((with_reducible show wpAny _ _ (call (Value.ref 220) [Value.int _ _, Value.ref 199]) _ _ _); (focus (k_dflt (refine' (enforce_U ?zzh0 ?zzh1).use ?zzkB ?zzkF ?zzkX ?zzkN ?zzkT ?zzkf ?zzkd ?zzku ⟨(fun hc9 t'9 h'9 tk'9 F'9 N'9 => ?_), (fun hc9 e'9 g'9 h'9 tk'9 FG'9 U'9 R'9 => ?_)⟩); (k_extra "mine ra"); (case zzh0 => first | assumption | omega); (case zzh1 => first | assumption | omega); (all_goals ((try (exfalso; omega)))); rotate_left))) | ((with_reducible show wpAny _ _ (call (Value.ref 220) [Value.int _ _, Value.ref 211]) _ _ _); (focus (k_dflt (refine' (enforce_V ?zzh0 ?zzh1).use ?zzkB ?zzkF ?zzkX ?zzkN ?zzkT ?zzkf ?zzkd ?zzku ⟨(fun hc9 t'9 h'9 tk'9 F'9 N'9 => ?_), (fun hc9 e'9 g'9 h'9 tk'9 FG'9 U'9 R'9 => ?_)⟩); (k_extra "mine ra"); (case zzh0 => first | assumption | omega); (case zzh1 => first | assumption | omega); (all_goals ((try (exfalso; omega)))); rotate_left))) | ((with_reducible show wpAny _ _ (call (Value.ref 220) [Value.int _ _, Value.ref _]) _ _ _); (focus (k_dflt (refine' (enforce_k ?zzhK ?zzhk ?zzh0 ?zzh1).use ?zzkB ?zzkF ?zzkX ?zzkN ?zzkT ?zzkf ?zzkd ?zzku ⟨(fun hc9 t'9 h'9 tk'9 F'9 N'9 => ?_), (fun hc9 e'9 g'9 h'9 tk'9 FG'9 U'9 R'9 => ?_)⟩; (case zzhK => assumption); (case zzhk => assumption)); (k_extra "mine ra"); (case zzh0 => first | assumption | omega); (case zzh1 => first | assumption | omega); (all_goals ((try (exfalso; omega)))); rotate_left)))))
  k_with "m getMethod ref" => (k_here; (with_reducible show wpAny _ _ (getMethod (Value.ref _) (PySem.Str.ofString "py_type") _) _ _ _); (refine' method_of_cls ?zzF ?zzX ?zzg ?_; (case zzF => k_asm); (case zzX => k_asm); (case zzg => exact Flag.sp (by assumption)); k_whole))
  k_with "m call ref" => (k_here; (first | ((with_reducible show wpAny _ _ (call (Value.ref 227) [Value.ref 46, Value.ref _, Value.int _ _]) _ _ _); k_dflt (refine' (get_encode_U ?zzh0 ?zzh1 ?zzhb ?zzhm).use ?zzkB ?zzkF ?zzkX ?zzkN ?zzkT ?zzkf ?zzkd ?zzku ?_); (k_extra "mine rb"); (case zzhm => k_extra "mine mem"); (case zzh0 => first | assumption | omega); (case zzh1 => first | assumption | omega); (case zzhb => assumption); (first | ((focus (refine saysRet_bool (fun i9 hv9 t'9 h'9 tk'9 F'9 N'9 => ?_) (fun hv9 e'9 g'9 h'9 tk'9 FG'9 U'9 R'9 => ?_); rotate_left))) | ((focus (refine saysRet_int ?zzhk ?zzhn (fun i9 hv9 hi9 t'9 h'9 tk'9 F'9 N'9 => ?_) (fun hv9 e'9 g'9 h'9 tk'9 FG'9 U'9 R'9 => ?_); (case zzhk => first | assumption | omega | decide); (case zzhn => first | assumption | omega); (all_goals ((try simp only [loK, hiK] at hi9))); rotate_left))))) | ((with_reducible show wpAny _ _ (call (Value.ref 227) [Value.ref _, Value.ref _, Value.int _ _]) _ _ _); k_dflt (refine' (get_encode ?zzhP ?zzPK ?zzh0 ?zzh1 ?zzhb ?zzhw ?zzhm).use ?zzkB ?zzkF ?zzkX ?zzkN ?zzkT ?zzkf ?zzkd ?zzku ?_; (case zzhP => assumption); (case zzPK => assumption); (case zzhw => assumption)); (k_extra "mine rb"); (case zzhm => k_extra "mine mem"); (case zzh0 => first | assumption | omega); (case zzh1 => first | assumption | omega); (case zzhb => assumption); (first | ((focus (refine saysRet_bool (fun i9 hv9 t'9 h'9 tk'9 F'9 N'9 => ?_) (fun hv9 e'9 g'9 h'9 tk'9 FG'9 U'9 R'9 => ?_); rotate_left))) | ((focus (refine saysRet_int ?zzhk ?zzhn (fun i9 hv9 hi9 t'9 h'9 tk'9 F'9 N'9 => ?_) (fun hv9 e'9 g'9 h'9 tk'9 FG'9 U'9 R'9 => ?_); (case zzhk => first | assumption | omega | decide); (case zzhn => first | assumption | omega); (all_goals ((try simp only [loK, hiK] at hi9))); rotate_left)))))))
  k_with "m call ref" => (k_here; (first | ((with_reducible show wpAny _ _ (call (Value.ref 291) [Value.ref _, Value.ref 187, Value.int _ _]) _ _ _); k_dflt (refine' (get_S ?zzh0 ?zzh1 ?zzhb ?zzm1 ?zzm2 ?zzm3).use ?zzkB ?zzkF ?zzkX ?zzkN ?zzkT ?zzkf ?zzkd ?zzku ?_); (k_extra "mine rb"); (case zzm1 => k_extra "mine mem"); (case zzm2 => k_extra "mine mem"); (case zzm3 => k_extra "mine mem"); (case zzh0 => first | assumption | omega); (case zzh1 => first | assumption | omega); (case zzhb => assumption); (focus (refine saysRet_reads (by decide) (fun i9 hv9 hr9 hi9 t'9 h'9 tk'9 F'9 N'9 => ?_) (fun hv9 hr9 e'9 g'9 h'9 tk'9 FG'9 U'9 R'9 => ?_) (fun hv9 hr9 e'9 g'9 h'9 tk'9 FG'9 U'9 R'9 => ?_); (all_goals ((try simp only [loK, hiK] at hi9); (try (exfalso; omega))))))) | ((with_reducible show wpAny _ _ (call (Value.ref 291) [Value.ref _, Value.ref 199, Value.int _ _]) _ _ _); k_dflt (refine' (get_U ?zzh0 ?zzh1 ?zzhb ?zzm1 ?zzm2 ?zzm3).use ?zzkB ?zzkF ?zzkX ?zzkN ?zzkT ?zzkf ?zzkd ?zzku ?_); (k_extra "mine rb"); (case zzm1 => k_extra "mine mem"); (case zzm2 => k_extra "mine mem"); (case zzm3 => k_extra "mine mem"); (case zzh0 => first | assumption | omega); (case zzh1 => first | assumption | omega); (case zzhb => assumption); (focus (refine saysRet_reads (by decide) (fun i9 hv9 hr9 hi9 t'9 h'9 tk'9 F'9 N'9 => ?_) (fun hv9 hr9 e'9 g'9 h'9 tk'9 FG'9 U'9 R'9 => ?_) (fun hv9 hr9 e'9 g'9 h'9 tk'9 FG'9 U'9 R'9 => ?_); (all_goals ((try simp only [loK, hiK] at hi9); (try (exfalso; omega))))))) | ((with_reducible show wpAny _ _ (call (Value.ref 291) [Value.ref _, Value.ref 211, Value.int _ _]) _ _ _); k_dflt (refine' (get_V ?zzh0 ?zzh1 ?zzhb ?zzm1 ?zzm2 ?zzm3).use ?zzkB ?zzkF ?zzkX ?zzkN ?zzkT ?zzkf ?zzkd ?zzku ?_); (k_extra "mine rb"); (case zzm1 => k_extra "mine mem"); (case zzm2 => k_extra "mine mem"); (case zzm3 => k_extra "mine mem"); (case zzh0 => first | assumption | omega); (case zzh1 => first | assumption | omega); (case zzhb => assumption); (focus (refine saysRet_reads (by decide) (fun i9 hv9 hr9 hi9 t'9 h'9 tk'9 F'9 N'9 => ?_) (fun hv9 hr9 e'9 g'9 h'9 tk'9 FG'9 U'9 R'9 => ?_) (fun hv9 hr9 e'9 g'9 h'9 tk'9 FG'9 U'9 R'9 => ?_); (all_goals ((try simp only [loK, hiK] at hi9); (try (exfalso; omega)))))))))
  k_with "mine end" => ((rename SaysRet _ _ _ _ _ _ _ _ _ _ => hR); (first | (exact hR.int (by k_extra "mine eq") _ _ _ (by assumption) (by first | assumption | exact cb_drop (by assumption) (by kcj_in))) | (exact hR.bytes (by k_extra "mine eq") _ _ _ (by assumption) (by first | assumption | exact cb_drop (by assumption) (by kcj_in))) | (exact hR.bool (by k_extra "mine eq") 0 _ _ (by assumption) (by first | assumption | exact cb_drop (by assumption) (by kcj_in))) | (exact hR.typ (by k_extra "mine eq") _ _ _ _ (by assumption) (by assumption) (by first | assumption | exact raisedSN_weak (by assumption) (by kcj_in))) | (exact hR.fin (by k_extra "mine eq") _ _ _ _ (by assumption) (by assumption) (by first | assumption | exact raisedSN_weak (by assumption) (by kcj_in)))))
  k_with "m call ref" => (k_here; (with_reducible show wpAny _ _ (call (Value.ref 249) [Value.ref _, Value.int _ _]) _ _ _); k_dflt (refine' (offset_ok ?zzh0 ?zzh1 ?zzh2 ?zzh3 ?zzhb ?zzm1 ?zzm2 ?zzm3).use ?zzkB ?zzkF ?zzkX ?zzkN ?zzkT ?zzkf ?zzkd ?zzku ?_); (k_extra "mine rb"); (case zzm1 => k_extra "mine mem"); (case zzm2 => k_extra "mine mem"); (case zzm3 => k_extra "mine mem"); (case zzh0 => first | assumption | omega); (case zzh1 => first | assumption | omega); (case zzh2 => first | assumption | omega); (case zzh3 => first | assumption | omega); (case zzhb => assumption); refine saysRet_row (fun i9 hv9 hi9 t'9 h'9 tk'9 F'9 N'9 => ?_) (fun hv9 e'9 g'9 h'9 tk'9 FG'9 U'9 R'9 => ?_) (fun hv9 e'9 g'9 h'9 tk'9 FG'9 U'9 R'9 => ?_))
  k_with "m call ref" => (k_here; (first | ((with_reducible show wpAny _ _ (call (Value.ref 220) [Value.int _ _, Value.ref 199]) _ _ _); k_dflt (refine' (enforce_U ?zzh0 ?zzh1).use ?zzkB ?zzkF ?zzkX ?zzkN ?zzkT ?zzkf ?zzkd ?zzku ?_); (k_extra "mine rb"); (case zzh0 => first | assumption | omega); (case zzh1 => first | assumption | omega); (focus (refine ⟨(fun hc9 t'9 h'9 tk'9 F'9 N'9 => ?_), (fun hc9 e'9 g'9 h'9 tk'9 FG'9 U'9 R'9 => ?_)⟩; (all_goals ((try (exfalso; omega)))); rotate_left))) | ((with_reducible show wpAny _ _ (call (Value.ref 220) [Value.int _ _, Value.ref 211]) _ _ _); k_dflt (refine' (enforce_V ?zzh0 ?zzh1).use ?zzkB ?zzkF ?zzkX ?zzkN ?zzkT ?zzkf ?zzkd ?zzku ?_); (k_extra "mine rb"); (case zzh0 => first | assumption | omega); (case zzh1 => first | assumption | omega); (focus (refine ⟨(fun hc9 t'9 h'9 tk'9 F'9 N'9 => ?_), (fun hc9 e'9 g'9 h'9 tk'9 FG'9 U'9 R'9 => ?_)⟩; (all_goals ((try (exfalso; omega)))); rotate_left))) | ((with_reducible show wpAny _ _ (call (Value.ref 220) [Value.int _ _, Value.ref _]) _ _ _); k_dflt (refine' (enforce_k ?zzhK ?zzhk ?zzh0 ?zzh1).use ?zzkB ?zzkF ?zzkX ?zzkN ?zzkT ?zzkf ?zzkd ?zzku ?_; (case zzhK => assumption); (case zzhk => first | assumption | omega)); (k_extra "mine rb"); (case zzh0 => first | assumption | omega); (case zzh1 => first | assumption | omega); (focus (refine ⟨(fun hc9 t'9 h'9 tk'9 F'9 N'9 => ?_), (fun hc9 e'9 g'9 h'9 tk'9 FG'9 U'9 R'9 => ?_)⟩; (all_goals ((try (exfalso; omega)))); rotate_left)))))
  k_with "m call ref" => (k_here; (first | ((with_reducible show wpAny _ _ (call (Value.ref 291) [Value.ref _, Value.ref 187, Value.int _ _]) _ _ _); fail) | ((with_reducible show wpAny _ _ (call (Value.ref 291) [Value.ref _, Value.ref 199, Value.int _ _]) _ _ _); fail) | ((with_reducible show wpAny _ _ (call (Value.ref 291) [Value.ref _, Value.ref 211, Value.int _ _]) _ _ _); fail) | ((with_reducible show wpAny _ _ (call (Value.ref 291) [Value.ref _, Value.ref _, Value.int _ _]) _ _ _); k_dflt (refine' (get_okN ?zzhK ?zzhk0 ?zzhw ?zzh0 ?zzh1 ?zzhb ?zzm1 ?zzm2 ?zzm3).use ?zzkB ?zzkF ?zzkX ?zzkN ?zzkT ?zzkf ?zzkd ?zzku ?_; (case zzhK => assumption); (case zzhk0 => assumption); (case zzhw => exact wdK_le _)); (k_extra "mine rb"); (case zzm1 => k_extra "mine mem"); (case zzm2 => k_extra "mine mem"); (case zzm3 => k_extra "mine mem"); (case zzh0 => first | assumption | omega); (case zzh1 => first | assumption | omega); (case zzhb => assumption); (focus (refine saysRet_reads (by assumption) (fun i9 hv9 hr9 hi9 t'9 h'9 tk'9 F'9 N'9 => ?_) (fun hv9 hr9 e'9 g'9 h'9 tk'9 FG'9 U'9 R'9 => ?_) (fun hv9 hr9 e'9 g'9 h'9 tk'9 FG'9 U'9 R'9 => ?_); (all_goals ((try (exfalso; omega))))))) | ((with_reducible show wpAny _ _ (call (Value.ref 291) [Value.ref _, Value.ref _, Value.int _ _]) _ _ _); k_dflt (refine' (get_ok0 ?zzhK ?zzh0 ?zzh1 ?zzhb ?zzm1 ?zzm2 ?zzm3).use ?zzkB ?zzkF ?zzkX ?zzkN ?zzkT ?zzkf ?zzkd ?zzku ?_; (case zzhK => assumption)); (k_extra "mine rb"); (case zzm1 => k_extra "mine mem"); (case zzm2 => k_extra "mine mem"); (case zzm3 => k_extra "mine mem"); (case zzh0 => first | assumption | omega); (case zzh1 => first | assumption | omega); (case zzhb => assumption); (focus (refine saysRet_reads0 (fun i9 hv9 hr9 t'9 h'9 tk'9 F'9 N'9 => ?_) (fun hv9 hr9 e'9 g'9 h'9 tk'9 FG'9 U'9 R'9 => ?_) (fun hv9 hr9 e'9 g'9 h'9 tk'9 FG'9 U'9 R'9 => ?_); (all_goals ((try (exfalso; omega)))))))))
  k_with "m call ref" => (k_here; (first | ((with_reducible show wpAny _ _ (call (Value.ref 220) [Value.bool _, Value.ref 61]) _ _ _); k_dflt (refine' (enforce_bb).use ?zzkB ?zzkF ?zzkX ?zzkN ?zzkT ?zzkf ?zzkd ?zzku ⟨?_, fun hc => (hc trivial).elim⟩); (k_extra "mine rb"); (intro hc t' h' tk' F' N')) | ((with_reducible show wpAny _ _ (call (Value.ref 220) [Value.int _ _, Value.ref 61]) _ _ _); k_dflt (refine' (enforce_bi ?zzhn).use ?zzkB ?zzkF ?zzkX ?zzkN ?zzkT ?zzkf ?zzkd ?zzku ⟨fun hc => hc.elim, ?_⟩; (case zzhn => assumption)); (k_extra "mine rb"); (intro hc e' g' h' tk' FG' U' R'))))
  k_with "mine mem" => (with_reducible first | assumption | exact List.mem_cons_self | (refine List.mem_cons_of_mem _ ?_; k_extra "mine mem"))
  k_with "k_mem" => (k_extra "mine mem")
  k_with "mine eq" => (assumption)
  k_with "m call ref" => (k_here; (with_reducible show wpAny _ _ (call (Value.ref 320) _) _ _ _); k_dflt (refine' (kinds_ok).use ?zzkB ?zzkF ?zzkX ?zzkN ?zzkT ?zzkf ?zzkd ?zzku ?_); (k_extra "mine rb"); intro l' D' h' tk' F' N' K')
  k_with "m subscriptTail" => (k_here; (with_reducible show wpAny _ _ (subscriptTail _ _ (Value.ref _) (Value.int _ _)) _ _ _); (with_unfolding_all (refine' kinds_item ?zzN ?zzm ?zzK ?zzh0 ?zzh1 ?zzhW ?_ ?zzhs); (case zzN => k_asm); (case zzm => k_extra "mine mem"); (case zzK => k_asm); (case zzh0 => first | assumption | omega); (case zzh1 => first | assumption | omega); (case zzhW => first | assumption | exact rfl); (case zzhs => with_unfolding_all rfl); k_whole); intro a' b' c' N')
  k_with "m UnrEnd" => (k_dflt (refine' unrEnd_tail ?zzF ?zzN ?zzoff ?_; (case zzF => k_asm); (case zzN => k_asm); (case zzoff => exact fun p hp => Nat.ne_of_lt (ktn_ltOf (by assumption) p hp)); k_whole))
  k_with "m call ref" => (k_here; (with_reducible show wpAny _ _ (call (Value.ref 339) _) _ _ _); k_dflt (refine' (number_ok ?zzh0 ?zzh1 ?zzhk0 ?zzhk1 ?zzhb ?zzhi ?zzm1).use ?zzkB ?zzkF ?zzkX ?zzkN ?zzkT ?zzkf ?zzkd ?zzku ?_); (k_extra "mine rb"); (case zzm1 => k_extra "mine mem"); (case zzhi => assumption); (case zzhb => assumption); (case zzh0 => first | assumption | omega); (case zzh1 => first | assumption | omega); (case zzhk0 => first | assumption | omega); (case zzhk1 => first | assumption | omega); (focus (refine rets_rd ?zzz (fun i9 hv9 hb9 t'9 h'9 tk'9 F'9 N'9 => ?_) (fun i9 hv9 t'9 h'9 tk'9 F'9 N'9 => ?_) (fun hv9 t'9 h'9 tk'9 F'9 N'9 => ?_); (case zzz => first | assumption | omega); (all_goals ((try simp only [Int.reduceToNat, loK, hiK] at hv9 hb9); (try simp only [Int.reduceToNat] at hv9); (try (exfalso; exact rd3_nobool hv9)))))))
  k_with "mine end" => ((rename Rets _ _ _ _ _ _ _ => hR); (first | (exact rets_int hR (by k_extra "mine eq") _ _ _ (by assumption) (by first | assumption | exact cb_drop (by assumption) (by kcj_in))) | (exact rets_typ hR (by k_extra "mine eq") _ _ _ (by assumption) (by first | assumption | exact cb_drop (by assumption) (by kcj_in))) | (exact rets_fin hR (by k_extra "mine eq") _ _ _ (by assumption) (by first | assumption | exact cb_drop (by assumption) (by kcj_in))) | (exact rets_bytes hR (by k_extra "mine eq") _ _ _ (by assumption) (by first | assumption | exact cb_drop (by assumption) (by kcj_in))) | (exact rets_bool hR (by k_extra "mine eq") 0 _ _ (by assumption) (by first | assumption | exact cb_drop (by assumption) (by kcj_in)))))
  k_with "m call ref" => (k_here; (with_reducible show wpAny _ _ (call (Value.ref 346) _) _ _ _); k_dflt (refine' (held_ok ?zzh0 ?zzh1 ?zzhk0 ?zzhk1 ?zzhb ?zzhi ?zzm1).use ?zzkB ?zzkF ?zzkX ?zzkN ?zzkT ?zzkf ?zzkd ?zzku ?_); (k_extra "mine rb"); (case zzm1 => k_extra "mine mem"); (case zzhi => assumption); (case zzhb => assumption); (case zzh0 => first | assumption | omega); (case zzh1 => first | assumption | omega); (case zzhk0 => first | assumption | omega); (case zzhk1 => first | assumption | omega); (first | ((focus (refine rets_reads ?zzz (fun i9 hv9 hr9 hb9 t'9 h'9 tk'9 F'9 N'9 => ?_) (fun hv9 hr9 t'9 h'9 tk'9 F'9 N'9 => ?_) (fun hv9 hr9 t'9 h'9 tk'9 F'9 N'9 => ?_); (case zzz => decide); (all_goals ((try simp only [Int.reduceToNat, loK, hiK] at hv9 hb9); (try (exfalso; omega)); (try simp only [Int.reduceToNat] at hv9)))))) | (refine rets_reads4 (fun i9 hv9 t'9 h'9 tk'9 F'9 N'9 => ?_) (fun i9 hv9 t'9 h'9 tk'9 F'9 N'9 => ?_) (fun hv9 t'9 h'9 tk'9 F'9 N'9 => ?_) (fun hv9 t'9 h'9 tk'9 F'9 N'9 => ?_)) | ((focus (refine rets_reads ?zzz (fun i9 hv9 hr9 hb9 t'9 h'9 tk'9 F'9 N'9 => ?_) (fun hv9 hr9 t'9 h'9 tk'9 F'9 N'9 => ?_) (fun hv9 hr9 t'9 h'9 tk'9 F'9 N'9 => ?_); (case zzz => first | decide | assumption | omega); (all_goals ((try simp only [Int.reduceToNat, loK, hiK] at hv9 hb9); (try (exfalso; omega)); (try simp only [Int.reduceToNat] at hv9))))))))
  k_with "mine held" => ((focus (refine rets_reads ?zzz (fun i9 hv9 hr9 hb9 t'9 h'9 tk'9 F'9 N'9 => ?_) (fun hv9 hr9 t'9 h'9 tk'9 F'9 N'9 => ?_) (fun hv9 hr9 t'9 h'9 tk'9 F'9 N'9 => ?_); (case zzz => first | decide | assumption | omega); (all_goals ((try simp only [Int.reduceToNat, loK, hiK] at hv9 hb9); (try (exfalso; omega)); (try simp only [Int.reduceToNat] at hv9))))))
  k_with "mine num" => ((focus (refine rets_rd ?zzz (fun i9 hv9 hb9 t'9 h'9 tk'9 F'9 N'9 => ?_) (fun i9 hv9 t'9 h'9 tk'9 F'9 N'9 => ?_) (fun hv9 t'9 h'9 tk'9 F'9 N'9 => ?_); (case zzz => first | assumption | omega); (all_goals ((try simp only [Int.reduceToNat, loK, hiK] at hv9 hb9); (try simp only [Int.reduceToNat] at hv9); (try (exfalso; exact rd3_nobool hv9)))))))
  k_with "m call ref" => (k_here; (first | ((with_reducible show wpAny _ _ (call (Value.ref 353) _) _ _ _); k_dflt (refine' (lrow_ok ?zzh0 ?zzh1 ?zzh2 ?zzh3 ?zzhb ?zzhi ?zzm1).use ?zzkB ?zzkF ?zzkX ?zzkN ?zzkT ?zzkf ?zzkd ?zzku ?_); (k_extra "mine rb"); (case zzm1 => k_extra "mine mem"); (case zzhi => assumption); (case zzhb => assumption); (case zzh0 => first | assumption | omega); (case zzh1 => first | assumption | omega); (case zzh2 => first | assumption | omega); (case zzh3 => first | assumption | omega); refine rets_row (fun i9 hv9 hb9 t'9 h'9 tk'9 F'9 N'9 => ?_) (fun hv9 t'9 h'9 tk'9 F'9 N'9 => ?_) (fun hv9 t'9 h'9 tk'9 F'9 N'9 => ?_)) | ((with_reducible show wpAny _ _ (call (Value.ref 360) _) _ _ _); k_dflt (refine' (lfar_ok ?zzh0 ?zzh1 ?zzhb ?zzhi ?zzm1).use ?zzkB ?zzkF ?zzkX ?zzkN ?zzkT ?zzkf ?zzkd ?zzku ?_); (k_extra "mine rb"); (case zzm1 => k_extra "mine mem"); (case zzhi => assumption); (case zzhb => assumption); (case zzh0 => first | assumption | omega); (case zzh1 => first | assumption | omega); (focus (refine rets_far (fun i9 hv9 hr9 hb9 t'9 h'9 tk'9 F'9 N'9 => ?_) (fun hv9 hr9 t'9 h'9 tk'9 F'9 N'9 => ?_) (fun hv9 hr9 t'9 h'9 tk'9 F'9 N'9 => ?_); (all_goals ((try (exfalso; omega)))))))))
  k_with "mine lrow" => (refine rets_row (fun i9 hv9 hb9 t'9 h'9 tk'9 F'9 N'9 => ?_) (fun hv9 t'9 h'9 tk'9 F'9 N'9 => ?_) (fun hv9 t'9 h'9 tk'9 F'9 N'9 => ?_))
  k_with "mine lfar" => ((focus (refine rets_far (fun i9 hv9 hr9 hb9 t'9 h'9 tk'9 F'9 N'9 => ?_) (fun hv9 hr9 t'9 h'9 tk'9 F'9 N'9 => ?_) (fun hv9 hr9 t'9 h'9 tk'9 F'9 N'9 => ?_); (all_goals ((try (exfalso; omega)))))))
  k_with "mine held" => (refine rets_reads4 (fun i9 hv9 t'9 h'9 tk'9 F'9 N'9 => ?_) (fun i9 hv9 t'9 h'9 tk'9 F'9 N'9 => ?_) (fun hv9 t'9 h'9 tk'9 F'9 N'9 => ?_) (fun hv9 t'9 h'9 tk'9 F'9 N'9 => ?_))
  k_with "mine held" => ((focus (refine rets_reads ?zzz (fun i9 hv9 hr9 hb9 t'9 h'9 tk'9 F'9 N'9 => ?_) (fun hv9 hr9 t'9 h'9 tk'9 F'9 N'9 => ?_) (fun hv9 hr9 t'9 h'9 tk'9 F'9 N'9 => ?_); (case zzz => decide); (all_goals ((try simp only [Int.reduceToNat, loK, hiK] at hv9 hb9); (try (exfalso; omega)); (try simp only [Int.reduceToNat] at hv9))))))
  k_with "m eval Call" => (refine Call_ ?_)
  k_with "m eval Name" => (k_here; (k_dflt first | (name_kind "free"; refine' nameX_F (by k_asm) (by exact rfl) ?zzm ?zzd ?_ (by kernel_rfl) (by exact rfl) (by kernel_rfl) (by kernel_rfl); (case zzm => k_mem); (case zzd => k_asm); k_whole) | (k_extra "mine name")))
  k_with "mine laenter" => (refine' kla_code ?zzk1 ?zzk2 ?zzk3 ?zzk4 ?zzk5 ?zzkA ?zzkF ?zzkK ?zzk6 ?zzk7 ?zzk8 ?zzk9 ?zzkB ?_ ?zzc2 ?zzc3 ?zzc4 ?zzc5; (case zzkA => exact rfl); (case zzkF => exact rfl); (case zzkK => assumption); (case zzk1 => k_asm); (case zzk2 => k_asm); (case zzk3 => k_asm); (case zzk4 => k_asm); (case zzk5 => k_asm); (case zzk6 => assumption); (case zzk7 => exact codeRec_news (by k_asm) (by assumption) (by assumption) (by assumption)); (case zzk8 => ktr_room); (case zzk9 => exact rfl); (case zzc5 => decide); (case zzkB => exact locs rfl); (case zzc2 => exact rfl); (case zzc3 => exact rfl); (case zzc4 => exact rfl); k_whole; intro g' L' h' FG' F' N' B' X' T'; (try dsimp only); (try k_lift B'))
  k_with "mine any" => (refine saysRet_any (fun i9 hv9 t'9 h'9 tk'9 F'9 N'9 => ?_) (fun i9 hv9 t'9 h'9 tk'9 F'9 N'9 => ?_) (fun i9 hv9 t'9 h'9 tk'9 F'9 N'9 => ?_) (fun hv9 e'9 g'9 h'9 tk'9 FG'9 U'9 R'9 => ?_) (fun hv9 e'9 g'9 h'9 tk'9 FG'9 U'9 R'9 => ?_))
  trivial
section
section
variable {w : World} {mean : ExcName → Option Value} {mg mb : Str → Option Value} {p : Program} {loose : List Str} {news : List (Addr × Obj)} {lam c' x dx d c1 c2 c3 c4 c5 c6 c7 c8 C : Addr} {oc o1 o2 o3 o4 o5 o6 o7 o8 : Obj} {ivs : Array Value} {qual : Str} {qt tp tv to tki td : Tok} {pm ctv : Value} {b : Array UInt8} {pos v off kind dd : Int} {k : Nat} {bb : Bool}
theorem kw60 : True := by
  w_top off
  k_with "m call ref" => (k_here; (with_reducible show wpAny _ _ (call (Value.ref 305) _) _ _ _); k_dflt (refine' (vslot_ok ?zzh0 ?zzh1 ?zzh2 ?zzh3 ?zzh4 ?zzh5 ?zzhb ?zzm1 ?zzm2 ?zzm3).use ?zzkB ?zzkF ?zzkX ?zzkN ?zzkT ?zzkf ?zzkd ?zzku ?_); (k_extra "mine rb"); (case zzm1 => k_extra "mine mem"); (case zzm2 => k_extra "mine mem"); (case zzm3 => k_extra "mine mem"); (case zzh0 => first | assumption | omega); (case zzh1 => first | assumption | omega); (case zzh2 => first | assumption | omega); (case zzh3 => first | assumption | omega); (case zzh4 => first | assumption | omega); (case zzh5 => first | assumption | omega); (case zzhb => assumption); refine saysRet_any (fun i9 hv9 t'9 h'9 tk'9 F'9 N'9 => ?_) (fun i9 hv9 t'9 h'9 tk'9 F'9 N'9 => ?_) (fun i9 hv9 t'9 h'9 tk'9 F'9 N'9 => ?_) (fun hv9 e'9 g'9 h'9 tk'9 FG'9 U'9 R'9 => ?_) (fun hv9 e'9 g'9 h'9 tk'9 FG'9 U'9 R'9 => ?_))
  trivial
theorem lam5 (hc : (c', oc) ∈ news) (hd : oc.data = .fields ivs) (hv : ivs[1]? = some (.str qual qt)) (hb : b.size ≤ 64) (m1 : (x, tabObj' dx d pos tp) ∈ news) (m2 : (dx, dictOf [] 0) ∈ news) (m3 : (d, baObj b) ∈ news)
   (h0 : 0 ≤ pos) (h1 : pos < 48) (h2 : 0 ≤ v) (h3 : v < 24) (h4 : 0 ≤ off) (h5 : off < 24) (n7 : (c7, o7) ∈ news) (d7 : o7.data = .cell (some (.int v tv))) (n6 : (c6, o6) ∈ news) (d6 : o6.data = .cell (some (.ref x)))
   (hfn : (lam, kla_obj "<lambda>" qual (lamArgs 5) (lamBody 5) (lamScope 5) [("v", c7), ("table", c6)] pm c' ctv) ∈ news) :
   Calls w mean mg mb p loose 20 300 (.ref lam) [] news (SaysRet news (vslot b pos v 65535)) := by
  unfold Calls
  k_fill
  intro dp un gd cn cs a ccd cl outer A₀ base h₀ L m s Q E B F X N T hf hd hu hret
  refine wpAny_call ?_
  k_dflt k_extra "mine laenter"
  show wpAny _ _ (eval (.Call (.Attribute _ _ _) _ _ _) _) _ _ _
  k_fold
  k_steps
  all_goals (first | k_extra "mine end")
theorem lam6 (hc : (c', oc) ∈ news) (hd : oc.data = .fields ivs) (hv : ivs[1]? = some (.str qual qt)) (hb : b.size ≤ 64) (m1 : (x, tabObj' dx d pos tp) ∈ news) (m2 : (dx, dictOf [] 0) ∈ news) (m3 : (d, baObj b) ∈ news)
   (h0 : 0 ≤ pos) (h1 : pos < 48) (h2 : 0 ≤ v) (h3 : v < 24) (h4 : 0 ≤ off) (h5 : off < 24) (n7 : (c7, o7) ∈ news) (d7 : o7.data = .cell (some (.int v tv))) (n6 : (c6, o6) ∈ news) (d6 : o6.data = .cell (some (.ref x)))
   (hfn : (lam, kla_obj "<lambda>" qual (lamArgs 6) (lamBody 6) (lamScope 6) [("v", c7), ("table", c6)] pm c' ctv) ∈ news) :
   Calls w mean mg mb p loose 20 300 (.ref lam) [] news (SaysRet news (vslot b pos (65536 + v) 0)) := by
  unfold Calls
  k_fill
  intro dp un gd cn cs a ccd cl outer A₀ base h₀ L m s Q E B F X N T hf hd hu hret
  refine wpAny_call ?_
  k_dflt k_extra "mine laenter"
  show wpAny _ _ (eval (.Call (.Attribute _ _ _) _ _ _) _) _ _ _
  k_fold
  k_steps
  all_goals (first | k_extra "mine end")
theorem kw61 : True := by
  w_top off
  k_with "m call ref" => (k_here; (with_reducible show wpAny _ _ (call (Value.ref 256) _) _ _ _); k_dflt (refine' (indirect_ok ?zzh0 ?zzh1 ?zzhb ?zzm1 ?zzm2 ?zzm3).use ?zzkB ?zzkF ?zzkX ?zzkN ?zzkT ?zzkf ?zzkd ?zzku ?_); (k_extra "mine rb"); (case zzm1 => k_extra "mine mem"); (case zzm2 => k_extra "mine mem"); (case zzm3 => k_extra "mine mem"); (case zzh0 => first | assumption | omega); (case zzh1 => first | assumption | omega); (case zzhb => assumption); refine saysRet_any (fun i9 hv9 t'9 h'9 tk'9 F'9 N'9 => ?_) (fun i9 hv9 t'9 h'9 tk'9 F'9 N'9 => ?_) (fun i9 hv9 t'9 h'9 tk'9 F'9 N'9 => ?_) (fun hv9 e'9 g'9 h'9 tk'9 FG'9 U'9 R'9 => ?_) (fun hv9 e'9 g'9 h'9 tk'9 FG'9 U'9 R'9 => ?_))
  trivial
theorem lam7 (hc : (c', oc) ∈ news) (hd : oc.data = .fields ivs) (hv : ivs[1]? = some (.str qual qt)) (hb : b.size ≤ 64) (m1 : (x, tabObj' dx d pos tp) ∈ news) (m2 : (dx, dictOf [] 0) ∈ news) (m3 : (d, baObj b) ∈ news)
   (h0 : 0 ≤ pos) (h1 : pos < 48) (h2 : 0 ≤ v) (h3 : v < 24) (h4 : 0 ≤ off) (h5 : off < 24) (n6 : (c6, o6) ∈ news) (d6 : o6.data = .cell (some (.ref x))) (n5 : (c5, o5) ∈ news) (d5 : o5.data = .cell (some (.int pos tp))) (n4 : (c4, o4) ∈ news) (d4 : o4.data = .cell (some (.int off to)))
   (hfn : (lam, kla_obj "<lambda>" qual (lamArgs 7) (lamBody 7) (lamScope 7) [("table", c6), ("pos", c5), ("off", c4)] pm c' ctv) ∈ news) :
   Calls w mean mg mb p loose 20 300 (.ref lam) [] news (SaysRet news (far b (pos + off))) := by
  unfold Calls
  k_fill
  intro dp un gd cn cs a ccd cl outer A₀ base h₀ L m s Q E B F X N T hf hd hu hret
  refine wpAny_call ?_
  k_dflt k_extra "mine laenter"
  show wpAny _ _ (eval (.Call (.Attribute _ _ _) _ _ _) _) _ _ _
  k_fold
  k_steps
  all_goals (first | k_extra "mine end")
theorem kw62 : True := by
  w_top off
  k_with "m call ref" => (k_here; (with_reducible show wpAny _ _ (call (Value.ref 263) _) _ _ _); k_dflt (refine' (string_ok ?zzh0 ?zzh1 ?zzhb ?zzm1 ?zzm2 ?zzm3).use ?zzkB ?zzkF ?zzkX ?zzkN ?zzkT ?zzkf ?zzkd ?zzku ?_); (k_extra "mine rb"); (case zzm1 => k_extra "mine mem"); (case zzm2 => k_extra "mine mem"); (case zzm3 => k_extra "mine mem"); (case zzh0 => first | assumption | omega); (case zzh1 => first | assumption | omega); (case zzhb => assumption); refine saysRet_any (fun i9 hv9 t'9 h'9 tk'9 F'9 N'9 => ?_) (fun i9 hv9 t'9 h'9 tk'9 F'9 N'9 => ?_) (fun i9 hv9 t'9 h'9 tk'9 F'9 N'9 => ?_) (fun hv9 e'9 g'9 h'9 tk'9 FG'9 U'9 R'9 => ?_) (fun hv9 e'9 g'9 h'9 tk'9 FG'9 U'9 R'9 => ?_))
  trivial
theorem lam8 (hc : (c', oc) ∈ news) (hd : oc.data = .fields ivs) (hv : ivs[1]? = some (.str qual qt)) (hb : b.size ≤ 64) (m1 : (x, tabObj' dx d pos tp) ∈ news) (m2 : (dx, dictOf [] 0) ∈ news) (m3 : (d, baObj b) ∈ news)
   (h0 : 0 ≤ pos) (h1 : pos < 48) (h2 : 0 ≤ v) (h3 : v < 24) (h4 : 0 ≤ off) (h5 : off < 24) (n6 : (c6, o6) ∈ news) (d6 : o6.data = .cell (some (.ref x))) (n5 : (c5, o5) ∈ news) (d5 : o5.data = .cell (some (.int pos tp))) (n4 : (c4, o4) ∈ news) (d4 : o4.data = .cell (some (.int off to)))
   (hfn : (lam, kla_obj "<lambda>" qual (lamArgs 8) (lamBody 8) (lamScope 8) [("table", c6), ("pos", c5), ("off", c4)] pm c' ctv) ∈ news) :
   Calls w mean mg mb p loose 20 300 (.ref lam) [] news (SaysRet news (str b (pos + off))) := by
  unfold Calls
  k_fill
  intro dp un gd cn cs a ccd cl outer A₀ base h₀ L m s Q E B F X N T hf hd hu hret
  refine wpAny_call ?_
  k_dflt k_extra "mine laenter"
  show wpAny _ _ (eval (.Call (.Attribute _ _ _) _ _ _) _) _ _ _
  k_fold
  k_steps
  all_goals (first | k_extra "mine end")
end
end
section
section
variable {w : World} {mean : ExcName → Option Value} {mg mb : Str → Option Value} {p : Program} {loose : List Str} {news : List (Addr × Obj)} {lam c' x dx d c1 c2 c3 c4 c5 c6 c7 c8 C : Addr} {oc o1 o2 o3 o4 o5 o6 o7 o8 : Obj} {ivs : Array Value} {qual : Str} {qt tp tv to tki td : Tok} {pm ctv : Value} {b : Array UInt8} {pos v off kind dd : Int} {k : Nat} {bb : Bool}
theorem kw63 : True := by
  w_top off
  k_with "m call ref" => (k_here; (with_reducible show wpAny _ _ (call (Value.ref 277) _) _ _ _); k_dflt (refine' (vector_ok ?zzh0 ?zzh1 ?zzh2 ?zzh3 ?zzhb ?zzm1 ?zzm2 ?zzm3).use ?zzkB ?zzkF ?zzkX ?zzkN ?zzkT ?zzkf ?zzkd ?zzku ?_); (k_extra "mine rb"); (case zzm1 => k_extra "mine mem"); (case zzm2 => k_extra "mine mem"); (case zzm3 => k_extra "mine mem"); (case zzh0 => first | assumption | omega); (case zzh1 => first | assumption | omega); (case zzh2 => first | assumption | omega); (case zzh3 => first | assumption | omega); (case zzhb => assumption); refine saysRet_any (fun i9 hv9 t'9 h'9 tk'9 F'9 N'9 => ?_) (fun i9 hv9 t'9 h'9 tk'9 F'9 N'9 => ?_) (fun i9 hv9 t'9 h'9 tk'9 F'9 N'9 => ?_) (fun hv9 e'9 g'9 h'9 tk'9 FG'9 U'9 R'9 => ?_) (fun hv9 e'9 g'9 h'9 tk'9 FG'9 U'9 R'9 => ?_))
  trivial
theorem lam9 (hc : (c', oc) ∈ news) (hd : oc.data = .fields ivs) (hv : ivs[1]? = some (.str qual qt)) (hb : b.size ≤ 64) (m1 : (x, tabObj' dx d pos tp) ∈ news) (m2 : (dx, dictOf [] 0) ∈ news) (m3 : (d, baObj b) ∈ news)
   (h0 : 0 ≤ pos) (h1 : pos < 48) (h2 : 0 ≤ v) (h3 : v < 24) (h4 : 0 ≤ off) (h5 : off < 24) (n6 : (c6, o6) ∈ news) (d6 : o6.data = .cell (some (.ref x))) (n4 : (c4, o4) ∈ news) (d4 : o4.data = .cell (some (.int off to)))
   (hfn : (lam, kla_obj "<lambda>" qual (lamArgs 9) (lamBody 9) (lamScope 9) [("table", c6), ("off", c4)] pm c' ctv) ∈ news) :
   Calls w mean mg mb p loose 20 300 (.ref lam) [] news (SaysRet news (vec b (pos + off))) := by
  unfold Calls
  rw [Int.add_comm pos off]
  k_fill
  intro dp un gd cn cs a ccd cl outer A₀ base h₀ L m s Q E B F X N T hf hd hu hret
  refine wpAny_call ?_
  k_dflt k_extra "mine laenter"
  show wpAny _ _ (eval (.Call (.Attribute _ _ _) _ _ _) _) _ _ _
  k_fold
  k_steps
  all_goals (first | k_extra "mine end")
theorem kw64 : True := by
  w_top off
  k_with "m call ref" => (k_here; (with_reducible show wpAny _ _ (call (Value.ref 270) _) _ _ _); k_dflt (refine' (vectorlen_ok ?zzh0 ?zzh1 ?zzh2 ?zzh3 ?zzhb ?zzm1 ?zzm2 ?zzm3).use ?zzkB ?zzkF ?zzkX ?zzkN ?zzkT ?zzkf ?zzkd ?zzku ?_); (k_extra "mine rb"); (case zzm1 => k_extra "mine mem"); (case zzm2 => k_extra "mine mem"); (case zzm3 => k_extra "mine mem"); (case zzh0 => first | assumption | omega); (case zzh1 => first | assumption | omega); (case zzh2 => first | assumption | omega); (case zzh3 => first | assumption | omega); (case zzhb => assumption); refine saysRet_any (fun i9 hv9 t'9 h'9 tk'9 F'9 N'9 => ?_) (fun i9 hv9 t'9 h'9 tk'9 F'9 N'9 => ?_) (fun i9 hv9 t'9 h'9 tk'9 F'9 N'9 => ?_) (fun hv9 e'9 g'9 h'9 tk'9 FG'9 U'9 R'9 => ?_) (fun hv9 e'9 g'9 h'9 tk'9 FG'9 U'9 R'9 => ?_))
  trivial
theorem lam10 (hc : (c', oc) ∈ news) (hd : oc.data = .fields ivs) (hv : ivs[1]? = some (.str qual qt)) (hb : b.size ≤ 64) (m1 : (x, tabObj' dx d pos tp) ∈ news) (m2 : (dx, dictOf [] 0) ∈ news) (m3 : (d, baObj b) ∈ news)
   (h0 : 0 ≤ pos) (h1 : pos < 48) (h2 : 0 ≤ v) (h3 : v < 24) (h4 : 0 ≤ off) (h5 : off < 24) (n6 : (c6, o6) ∈ news) (d6 : o6.data = .cell (some (.ref x))) (n4 : (c4, o4) ∈ news) (d4 : o4.data = .cell (some (.int off to)))
   (hfn : (lam, kla_obj "<lambda>" qual (lamArgs 10) (lamBody 10) (lamScope 10) [("table", c6), ("off", c4)] pm c' ctv) ∈ news) :
   Calls w mean mg mb p loose 20 300 (.ref lam) [] news (SaysRet news (vlen b (pos + off))) := by
  unfold Calls
  rw [Int.add_comm pos off]
  k_fill
  intro dp un gd cn cs a ccd cl outer A₀ base h₀ L m s Q E B F X N T hf hd hu hret
  refine wpAny_call ?_
  k_dflt k_extra "mine laenter"
  show wpAny _ _ (eval (.Call (.Attribute _ _ _) _ _ _) _) _ _ _
  k_fold
  k_steps
  all_goals (first | k_extra "mine end")
theorem kw65 : True := by
  w_top off
  k_with "m call ref" => (k_here; (with_reducible show wpAny _ _ (call (Value.ref 395) _) _ _ _); k_dflt (refine' (union_ok ?zzh0 ?zzh1 ?zzh2 ?zzh3 ?zzhb ?zzm1 ?zzm2 ?zzm3).use ?zzkB ?zzkF ?zzkX ?zzkN ?zzkT ?zzkf ?zzkd ?zzku ?_); (k_extra "mine rb"); (case zzm1 => k_extra "mine mem"); (case zzm2 => k_extra "mine mem"); (case zzm3 => k_extra "mine mem"); (case zzh0 => first | assumption | omega); (case zzh1 => first | assumption | omega); (case zzh2 => first | assumption | omega); (case zzh3 => first | assumption | omega); (case zzhb => assumption); refine saysRet_any (fun i9 hv9 t'9 h'9 tk'9 F'9 N'9 => ?_) (fun i9 hv9 t'9 h'9 tk'9 F'9 N'9 => ?_) (fun i9 hv9 t'9 h'9 tk'9 F'9 N'9 => ?_) (fun hv9 e'9 g'9 h'9 tk'9 FG'9 U'9 R'9 => ?_) (fun hv9 e'9 g'9 h'9 tk'9 FG'9 U'9 R'9 => ?_))
  trivial
theorem lam11 (hc : (c', oc) ∈ news) (hd : oc.data = .fields ivs) (hv : ivs[1]? = some (.str qual qt)) (hb : b.size ≤ 64) (m1 : (x, tabObj' dx d pos tp) ∈ news) (m2 : (dx, dictOf [] 0) ∈ news) (m3 : (d, baObj b) ∈ news)
   (h0 : 0 ≤ pos) (h1 : pos < 48) (h2 : 0 ≤ v) (h3 : v < 24) (h4 : 0 ≤ off) (h5 : off < 24) (n6 : (c6, o6) ∈ news) (d6 : o6.data = .cell (some (.ref x))) (n4 : (c4, o4) ∈ news) (d4 : o4.data = .cell (some (.int off to)))
   (hfn : (lam, kla_obj "<lambda>" qual (lamArgs 11) (lamBody 11) (lamScope 11) [("table", c6), ("off", c4)] pm c' ctv) ∈ news) :
   Calls w mean mg mb p loose 20 300 (.ref lam) [] news (SaysRet news (far b (pos + off))) := by
  unfold Calls
  rw [Int.add_comm pos off]
  k_fill
  intro dp un gd cn cs a ccd cl outer A₀ base h₀ L m s Q E B F X N T hf hd hu hret
  refine wpAny_call ?_
  k_dflt k_extra "mine laenter"
  show wpAny _ _ (eval (.Call (.Name _ _) _ _ _) _) _ _ _
  k_fold
  k_steps
  all_goals (first | k_extra "mine end")
theorem kw66 : True := by
  w_top off
  k_with "m call ref" => (k_here; (with_reducible show wpAny _ _ (call (Value.ref 256) _) _ _ _); k_dflt (refine' (indirect_ok ?zzh0 ?zzh1 ?zzhb ?zzm1 ?zzm2 ?zzm3).use ?zzkB ?zzkF ?zzkX ?zzkN ?zzkT ?zzkf ?zzkd ?zzku ?_); (k_extra "mine rb"); (case zzm1 => k_extra "mine mem"); (case zzm2 => k_extra "mine mem"); (case zzm3 => k_extra "mine mem"); (case zzh0 => first | assumption | omega); (case zzh1 => first | assumption | omega); (case zzhb => assumption); refine saysRet_any (fun i9 hv9 t'9 h'9 tk'9 F'9 N'9 => ?_) (fun i9 hv9 t'9 h'9 tk'9 F'9 N'9 => ?_) (fun i9 hv9 t'9 h'9 tk'9 F'9 N'9 => ?_) (fun hv9 e'9 g'9 h'9 tk'9 FG'9 U'9 R'9 => ?_) (fun hv9 e'9 g'9 h'9 tk'9 FG'9 U'9 R'9 => ?_))
  trivial
theorem lam12 (hc : (c', oc) ∈ news) (hd : oc.data = .fields ivs) (hv : ivs[1]? = some (.str qual qt)) (hb : b.size ≤ 64) (m1 : (x, tabObj' dx d pos tp) ∈ news) (m2 : (dx, dictOf [] 0) ∈ news) (m3 : (d, baObj b) ∈ news)
   (h0 : 0 ≤ pos) (h1 : pos < 48) (h2 : 0 ≤ v) (h3 : v < 24) (h4 : 0 ≤ off) (h5 : off < 24) (n6 : (c6, o6) ∈ news) (d6 : o6.data = .cell (some (.ref x))) (n4 : (c4, o4) ∈ news) (d4 : o4.data = .cell (some (.int off to)))
   (hfn : (lam, kla_obj "<lambda>" qual (lamArgs 12) (lamBody 12) (lamScope 12) [("table", c6), ("off", c4)] pm c' ctv) ∈ news) :
   Calls w mean mg mb p loose 20 300 (.ref lam) [] news (SaysRet news (far b (0 - 1 - off))) := by
  unfold Calls
  k_fill
  intro dp un gd cn cs a ccd cl outer A₀ base h₀ L m s Q E B F X N T hf hd hu hret
  refine wpAny_call ?_
  k_dflt k_extra "mine laenter"
  show wpAny _ _ (eval (.Call (.Attribute _ _ _) _ _ _) _) _ _ _
  k_fold
  k_steps
  all_goals (first | k_extra "mine end")
end
end
theorem kw67 : True := by
  w_top off
  k_with_none
  k_with "k_ne" => ((try dsimp only); with_reducible first | exact Nat.ne_of_lt (by k_extra "mine lt") | exact Nat.ne_of_gt (by k_extra "mine lt") | fail)
  k_with "mine lt" => (first | assumption | (refine Nat.lt_trans (by assumption) ?_; k_extra "mine lt"))
  k_with "mine rc" => ((case zzkB => k_asm); (case zzkF => k_asm); (case zzkX => k_asm); (case zzkN => k_asm); (case zzkT => k_asm); (case zzkf => first | k_dflt exact rfl | assumption); (case zzkd => k_extra "mine room"); (case zzku => k_extra "mine room"))
  k_with "mine ra" => ((case zzkB => k_asm); (case zzkF => k_asm); (case zzkX => k_asm); (case zzkN => k_asm); (case zzkT => k_asm); (case zzkf => first | exact rfl | assumption); (case zzkd => ktr_room); (case zzku => ktr_units))
  k_with "mine name" => (first | (name_kind "local"; refine' nameX_L (by k_asm) (by exact rfl) ?_ (by kernel_rfl) (by kernel_rfl) (by kernel_rfl); k_whole) | (name_kind "globalImplicit"; refine' nameX_K (by k_asm) (by k_asm) (by k_asm) (by k_is) ?_ (by kernel_rfl) (by kernel_rfl) (by kernel_rfl); k_whole) | (name_kind "globalImplicit"; refine' nameX_B (by k_asm) (by k_asm) (by k_asm) (by k_is) (by boot_fast) (by decide) ?_ (by kernel_rfl) (by kernel_rfl) (by kernel_rfl); k_whole))
  k_with "m eval Name" => (k_here; k_dflt k_extra "mine name")
  k_with "k_room" => (ktr_room)
  k_with "k_units" => (ktr_units)
  k_with "m getMethod ref" => (k_here; (with_reducible show wpAny _ _ (getMethod (Value.ref _) (PySem.Str.ofString "unpack_from") _) _ _ _); (refine' method_unpack ?zzhP ?_; (case zzhP => exact (Frag.In.keeps (by k_asm) (Fr.keep (by k_asm))) _ _ (by assumption)); k_whole))
  k_with "m call builtin:_struct.Struct.unpack_from" => (k_here; ((focus (refine' unpack_call ?zzhh ?zzF ?zzN ?zzhP ?zzhd ?zzPK ?zzh0 ?zzh1 ?zzhb ?zzhw (fun hin9 T'9 t'9 h'9 tk'9 F'9 N'9 l19 => ?_) (fun hin9 h'9 tk'9 e'9 x'9 => ?_); (case zzhh => rfl); (case zzF => k_asm); (case zzN => k_asm); (case zzhP => exact (Frag.In.keeps (by k_asm) (Fr.keep (by k_asm))) _ _ (by assumption)); (case zzhd => exact News.get (by k_asm) (by k_mem)); (case zzPK => assumption); (case zzh0 => assumption); (case zzh1 => omega); (case zzhb => assumption); (case zzhw => assumption); (all_goals ((try k_lt l19))); rotate_left))))
  k_with "m leaving ref" => (k_here; (first | (refine' leave_onX rfl ?zzk1 ?zzk2 ?zzk3 ?zzk4 ?_; (case zzk3 => assumption); (case zzk1 => assumption); (case zzk4 => assumption); (case zzk2 => assumption); k_whole; intro h' R' U'; (try dsimp only at R' U' ⊢)) | (refine' leave_newN ?zzk1 ?zzk0 ?zzk2 ?zzk3 ?_; (case zzk0 => assumption); (case zzk1 => assumption); (case zzk2 => assumption); (case zzk3 => k_asm); k_whole; intro h' R' U'; (try dsimp only at R' U' ⊢)) | (refine' leave_raiseN ?zzk1 ?zzk0 ?zzk2 ?zzk3 ?_; (case zzk0 => first | assumption | (exact Heap.MadeExc.of (by assumption))); (case zzk1 => assumption); (case zzk2 => assumption); (case zzk3 => k_asm); k_whole; intro h' R' U'; (try dsimp only at R' U' ⊢))))
  k_with "m getAttr ref" => (k_here; (first | (refine' cls_val ?zzk1 ?zzk2 ?zzk3 ?zzk4 ?zzk5 ?zzk6 ?_; (case zzk1 => k_asm); (case zzk2 => k_asm); (case zzk3 => exact Flag.ty (by assumption)); (case zzk4 => exact Flag.rd (by assumption)); (case zzk5 => first | (exact Flag.mn (by assumption)) | (exact Flag.mx (by assumption)) | (exact Flag.pkt (by assumption)) | assumption); (case zzk6 => rfl); k_whole) | (refine' cls_pyt ?zzX ?zzr ?zza ?zzb ?zzT ?_; (case zza => exact Flag.pyt (by assumption)); (case zzX => exact (Frag.In.keeps (by k_asm) (Fr.keep (by k_asm)))); (case zzr => exact Flag.rd (by assumption)); (case zzb => exact Flag.pym (by assumption)); (case zzT => first | exact FF.mt_int | exact FF.mt_bool | assumption); k_whole)))
  k_with "m compareOp LtE bool int" => (refine le_bool_int ?_)
  k_with "m compareOp LtE int bool" => (refine le_int_bool ?_)
  k_with "m call ref" => (k_here; (first | ((with_reducible show wpAny _ _ (call (Value.ref 220) [Value.int _ _, Value.ref 199]) _ _ _); (focus (k_dflt (refine' (enforce_U ?zzh0 ?zzh1).use ?zzkB ?zzkF ?zzkX ?zzkN ?zzkT ?zzkf ?zzkd ?zzku ⟨(fun hc9 t'9 h'9 tk'9 F'9 N'9 => ?_), (fun hc9 e'9 g'9 h'9 tk'9 FG'9 U'9 R'9 => ?_)⟩); (k_extra "mine ra"); (case zzh0 => first | assumption | omega); (case zzh1 => first | assumption | omega); (all_goals ((try (exfalso; omega)))); rotate_left))) | ((with_reducible show wpAny _ _ (call (Value.ref 220) [Value.int _ _, Value.ref 211]) _ _ _); (focus (k_dflt (refine' (enforce_V ?zzh0 ?zzh1).use ?zzkB ?zzkF ?zzkX ?zzkN ?zzkT ?zzkf ?zzkd ?zzku ⟨(fun hc9 t'9 h'9 tk'9 F'9 N'9 => ?_), (fun hc9 e'9 g'9 h'9 tk'9 FG'9 U'9 R'9 => ?_)⟩); (k_extra "mine ra"); (case zzh0 => first | assumption | omega); (case zzh1 => first | assumption | omega); (all_goals ((try (exfalso; omega)))); rotate_left))) | ((with_reducible show wpAny _ _ (call (Value.ref 220) [Value.int _ _, Value.ref _]) _ _ _); (focus (k_dflt (refine' (enforce_k ?zzhK ?zzhk ?zzh0 ?zzh1).use ?zzkB ?zzkF ?zzkX ?zzkN ?zzkT ?zzkf ?zzkd ?zzku ⟨(fun hc9 t'9 h'9 tk'9 F'9 N'9 => ?_), (fun hc9 e'9 g'9 h'9 tk'9 FG'9 U'9 R'9 => ?_)⟩; (case zzhK => assumption); (case zzhk => assumption)); (k_extra "mine ra"); (case zzh0 => first | assumption | omega); (case zzh1 => first | assumption | omega); (all_goals ((try (exfalso; omega)))); rotate_left)))))
  k_with "m getMethod ref" => (k_here; (with_reducible show wpAny _ _ (getMethod (Value.ref _) (PySem.Str.ofString "py_type") _) _ _ _); (refine' method_of_cls ?zzF ?zzX ?zzg ?_; (case zzF => k_asm); (case zzX => k_asm); (case zzg => exact Flag.sp (by assumption)); k_whole))
  k_with "m call ref" => (k_here; (first | ((with_reducible show wpAny _ _ (call (Value.ref 227) [Value.ref 46, Value.ref _, Value.int _ _]) _ _ _); k_dflt (refine' (get_encode_U ?zzh0 ?zzh1 ?zzhb ?zzhm).use ?zzkB ?zzkF ?zzkX ?zzkN ?zzkT ?zzkf ?zzkd ?zzku ?_); (k_extra "mine rc"); (case zzhm => k_extra "mine mem"); (case zzh0 => first | assumption | omega); (case zzh1 => first | assumption | omega); (case zzhb => assumption); (first | ((focus (refine saysRet_bool (fun i9 hv9 t'9 h'9 tk'9 F'9 N'9 => ?_) (fun hv9 e'9 g'9 h'9 tk'9 FG'9 U'9 R'9 => ?_); rotate_left))) | ((focus (refine saysRet_int ?zzhk ?zzhn (fun i9 hv9 hi9 t'9 h'9 tk'9 F'9 N'9 => ?_) (fun hv9 e'9 g'9 h'9 tk'9 FG'9 U'9 R'9 => ?_); (case zzhk => first | assumption | omega | decide); (case zzhn => first | assumption | omega); (all_goals ((try simp only [loK, hiK] at hi9))); rotate_left))))) | ((with_reducible show wpAny _ _ (call (Value.ref 227) [Value.ref _, Value.ref _, Value.int _ _]) _ _ _); k_dflt (refine' (get_encode ?zzhP ?zzPK ?zzh0 ?zzh1 ?zzhb ?zzhw ?zzhm).use ?zzkB ?zzkF ?zzkX ?zzkN ?zzkT ?zzkf ?zzkd ?zzku ?_; (case zzhP => assumption); (case zzPK => assumption); (case zzhw => assumption)); (k_extra "mine rc"); (case zzhm => k_extra "mine mem"); (case zzh0 => first | assumption | omega); (case zzh1 => first | assumption | omega); (case zzhb => assumption); (first | ((focus (refine saysRet_bool (fun i9 hv9 t'9 h'9 tk'9 F'9 N'9 => ?_) (fun hv9 e'9 g'9 h'9 tk'9 FG'9 U'9 R'9 => ?_); rotate_left))) | ((focus (refine saysRet_int ?zzhk ?zzhn (fun i9 hv9 hi9 t'9 h'9 tk'9 F'9 N'9 => ?_) (fun hv9 e'9 g'9 h'9 tk'9 FG'9 U'9 R'9 => ?_); (case zzhk => first | assumption | omega | decide); (case zzhn => first | assumption | omega); (all_goals ((try simp only [loK, hiK] at hi9))); rotate_left)))))))
  k_with "m call ref" => (k_here; (first | ((with_reducible show wpAny _ _ (call (Value.ref 291) [Value.ref _, Value.ref 187, Value.int _ _]) _ _ _); k_dflt (refine' (get_S ?zzh0 ?zzh1 ?zzhb ?zzm1 ?zzm2 ?zzm3).use ?zzkB ?zzkF ?zzkX ?zzkN ?zzkT ?zzkf ?zzkd ?zzku ?_); (k_extra "mine rc"); (case zzm1 => k_extra "mine mem"); (case zzm2 => k_extra "mine mem"); (case zzm3 => k_extra "mine mem"); (case zzh0 => first | assumption | omega); (case zzh1 => first | assumption | omega); (case zzhb => assumption); (focus (refine saysRet_reads (by decide) (fun i9 hv9 hr9 hi9 t'9 h'9 tk'9 F'9 N'9 => ?_) (fun hv9 hr9 e'9 g'9 h'9 tk'9 FG'9 U'9 R'9 => ?_) (fun hv9 hr9 e'9 g'9 h'9 tk'9 FG'9 U'9 R'9 => ?_); (all_goals ((try simp only [loK, hiK] at hi9); (try (exfalso; omega))))))) | ((with_reducible show wpAny _ _ (call (Value.ref 291) [Value.ref _, Value.ref 199, Value.int _ _]) _ _ _); k_dflt (refine' (get_U ?zzh0 ?zzh1 ?zzhb ?zzm1 ?zzm2 ?zzm3).use ?zzkB ?zzkF ?zzkX ?zzkN ?zzkT ?zzkf ?zzkd ?zzku ?_); (k_extra "mine rc"); (case zzm1 => k_extra "mine mem"); (case zzm2 => k_extra "mine mem"); (case zzm3 => k_extra "mine mem"); (case zzh0 => first | assumption | omega); (case zzh1 => first | assumption | omega); (case zzhb => assumption); (focus (refine saysRet_reads (by decide) (fun i9 hv9 hr9 hi9 t'9 h'9 tk'9 F'9 N'9 => ?_) (fun hv9 hr9 e'9 g'9 h'9 tk'9 FG'9 U'9 R'9 => ?_) (fun hv9 hr9 e'9 g'9 h'9 tk'9 FG'9 U'9 R'9 => ?_); (all_goals ((try simp only [loK, hiK] at hi9); (try (exfalso; omega))))))) | ((with_reducible show wpAny _ _ (call (Value.ref 291) [Value.ref _, Value.ref 211, Value.int _ _]) _ _ _); k_dflt (refine' (get_V ?zzh0 ?zzh1 ?zzhb ?zzm1 ?zzm2 ?zzm3).use ?zzkB ?zzkF ?zzkX ?zzkN ?zzkT ?zzkf ?zzkd ?zzku ?_); (k_extra "mine rc"); (case zzm1 => k_extra "mine mem"); (case zzm2 => k_extra "mine mem"); (case zzm3 => k_extra "mine mem"); (case zzh0 => first | assumption | omega); (case zzh1 => first | assumption | omega); (case zzhb => assumption); (focus (refine saysRet_reads (by decide) (fun i9 hv9 hr9 hi9 t'9 h'9 tk'9 F'9 N'9 => ?_) (fun hv9 hr9 e'9 g'9 h'9 tk'9 FG'9 U'9 R'9 => ?_) (fun hv9 hr9 e'9 g'9 h'9 tk'9 FG'9 U'9 R'9 => ?_); (all_goals ((try simp only [loK, hiK] at hi9); (try (exfalso; omega)))))))))
  k_with "mine end" => ((rename SaysRet _ _ _ _ _ _ _ _ _ _ => hR); (first | (exact hR.int (by k_extra "mine eq") _ _ _ (by assumption) (by first | assumption | exact cb_drop (by assumption) (by kcj_in))) | (exact hR.bytes (by k_extra "mine eq") _ _ _ (by assumption) (by first | assumption | exact cb_drop (by assumption) (by kcj_in))) | (exact hR.bool (by k_extra "mine eq") 0 _ _ (by assumption) (by first | assumption | exact cb_drop (by assumption) (by kcj_in))) | (exact hR.typ (by k_extra "mine eq") _ _ _ _ (by assumption) (by assumption) (by first | assumption | exact raisedSN_weak (by assumption) (by kcj_in))) | (exact hR.fin (by k_extra "mine eq") _ _ _ _ (by assumption) (by assumption) (by first | assumption | exact raisedSN_weak (by assumption) (by kcj_in)))))
  k_with "m call ref" => (k_here; (with_reducible show wpAny _ _ (call (Value.ref 249) [Value.ref _, Value.int _ _]) _ _ _); k_dflt (refine' (offset_ok ?zzh0 ?zzh1 ?zzh2 ?zzh3 ?zzhb ?zzm1 ?zzm2 ?zzm3).use ?zzkB ?zzkF ?zzkX ?zzkN ?zzkT ?zzkf ?zzkd ?zzku ?_); (k_extra "mine rc"); (case zzm1 => k_extra "mine mem"); (case zzm2 => k_extra "mine mem"); (case zzm3 => k_extra "mine mem"); (case zzh0 => first | assumption | omega); (case zzh1 => first | assumption | omega); (case zzh2 => first | assumption | omega); (case zzh3 => first | assumption | omega); (case zzhb => assumption); refine saysRet_row (fun i9 hv9 hi9 t'9 h'9 tk'9 F'9 N'9 => ?_) (fun hv9 e'9 g'9 h'9 tk'9 FG'9 U'9 R'9 => ?_) (fun hv9 e'9 g'9 h'9 tk'9 FG'9 U'9 R'9 => ?_))
  k_with "m call ref" => (k_here; (first | ((with_reducible show wpAny _ _ (call (Value.ref 220) [Value.int _ _, Value.ref 199]) _ _ _); k_dflt (refine' (enforce_U ?zzh0 ?zzh1).use ?zzkB ?zzkF ?zzkX ?zzkN ?zzkT ?zzkf ?zzkd ?zzku ?_); (k_extra "mine rc"); (case zzh0 => first | assumption | omega); (case zzh1 => first | assumption | omega); (focus (refine ⟨(fun hc9 t'9 h'9 tk'9 F'9 N'9 => ?_), (fun hc9 e'9 g'9 h'9 tk'9 FG'9 U'9 R'9 => ?_)⟩; (all_goals ((try (exfalso; omega)))); rotate_left))) | ((with_reducible show wpAny _ _ (call (Value.ref 220) [Value.int _ _, Value.ref 211]) _ _ _); k_dflt (refine' (enforce_V ?zzh0 ?zzh1).use ?zzkB ?zzkF ?zzkX ?zzkN ?zzkT ?zzkf ?zzkd ?zzku ?_); (k_extra "mine rc"); (case zzh0 => first | assumption | omega); (case zzh1 => first | assumption | omega); (focus (refine ⟨(fun hc9 t'9 h'9 tk'9 F'9 N'9 => ?_), (fun hc9 e'9 g'9 h'9 tk'9 FG'9 U'9 R'9 => ?_)⟩; (all_goals ((try (exfalso; omega)))); rotate_left))) | ((with_reducible show wpAny _ _ (call (Value.ref 220) [Value.int _ _, Value.ref _]) _ _ _); k_dflt (refine' (enforce_k ?zzhK ?zzhk ?zzh0 ?zzh1).use ?zzkB ?zzkF ?zzkX ?zzkN ?zzkT ?zzkf ?zzkd ?zzku ?_; (case zzhK => assumption); (case zzhk => first | assumption | omega)); (k_extra "mine rc"); (case zzh0 => first | assumption | omega); (case zzh1 => first | assumption | omega); (focus (refine ⟨(fun hc9 t'9 h'9 tk'9 F'9 N'9 => ?_), (fun hc9 e'9 g'9 h'9 tk'9 FG'9 U'9 R'9 => ?_)⟩; (all_goals ((try (exfalso; omega)))); rotate_left)))))
  k_with "m call ref" => (k_here; (first | ((with_reducible show wpAny _ _ (call (Value.ref 291) [Value.ref _, Value.ref 187, Value.int _ _]) _ _ _); fail) | ((with_reducible show wpAny _ _ (call (Value.ref 291) [Value.ref _, Value.ref 199, Value.int _ _]) _ _ _); fail) | ((with_reducible show wpAny _ _ (call (Value.ref 291) [Value.ref _, Value.ref 211, Value.int _ _]) _ _ _); fail) | ((with_reducible show wpAny _ _ (call (Value.ref 291) [Value.ref _, Value.ref _, Value.int _ _]) _ _ _); k_dflt (refine' (get_okN ?zzhK ?zzhk0 ?zzhw ?zzh0 ?zzh1 ?zzhb ?zzm1 ?zzm2 ?zzm3).use ?zzkB ?zzkF ?zzkX ?zzkN ?zzkT ?zzkf ?zzkd ?zzku ?_; (case zzhK => assumption); (case zzhk0 => assumption); (case zzhw => exact wdK_le _)); (k_extra "mine rc"); (case zzm1 => k_extra "mine mem"); (case zzm2 => k_extra "mine mem"); (case zzm3 => k_extra "mine mem"); (case zzh0 => first | assumption | omega); (case zzh1 => first | assumption | omega); (case zzhb => assumption); (focus (refine saysRet_reads (by assumption) (fun i9 hv9 hr9 hi9 t'9 h'9 tk'9 F'9 N'9 => ?_) (fun hv9 hr9 e'9 g'9 h'9 tk'9 FG'9 U'9 R'9 => ?_) (fun hv9 hr9 e'9 g'9 h'9 tk'9 FG'9 U'9 R'9 => ?_); (all_goals ((try (exfalso; omega))))))) | ((with_reducible show wpAny _ _ (call (Value.ref 291) [Value.ref _, Value.ref _, Value.int _ _]) _ _ _); k_dflt (refine' (get_ok0 ?zzhK ?zzh0 ?zzh1 ?zzhb ?zzm1 ?zzm2 ?zzm3).use ?zzkB ?zzkF ?zzkX ?zzkN ?zzkT ?zzkf ?zzkd ?zzku ?_; (case zzhK => assumption)); (k_extra "mine rc"); (case zzm1 => k_extra "mine mem"); (case zzm2 => k_extra "mine mem"); (case zzm3 => k_extra "mine mem"); (case zzh0 => first | assumption | omega); (case zzh1 => first | assumption | omega); (case zzhb => assumption); (focus (refine saysRet_reads0 (fun i9 hv9 hr9 t'9 h'9 tk'9 F'9 N'9 => ?_) (fun hv9 hr9 e'9 g'9 h'9 tk'9 FG'9 U'9 R'9 => ?_) (fun hv9 hr9 e'9 g'9 h'9 tk'9 FG'9 U'9 R'9 => ?_); (all_goals ((try (exfalso; omega)))))))))
  k_with "m call ref" => (k_here; (first | ((with_reducible show wpAny _ _ (call (Value.ref 220) [Value.bool _, Value.ref 61]) _ _ _); k_dflt (refine' (enforce_bb).use ?zzkB ?zzkF ?zzkX ?zzkN ?zzkT ?zzkf ?zzkd ?zzku ⟨?_, fun hc => (hc trivial).elim⟩); (k_extra "mine rc"); (intro hc t' h' tk' F' N')) | ((with_reducible show wpAny _ _ (call (Value.ref 220) [Value.int _ _, Value.ref 61]) _ _ _); k_dflt (refine' (enforce_bi ?zzhn).use ?zzkB ?zzkF ?zzkX ?zzkN ?zzkT ?zzkf ?zzkd ?zzku ⟨fun hc => hc.elim, ?_⟩; (case zzhn => assumption)); (k_extra "mine rc"); (intro hc e' g' h' tk' FG' U' R'))))
  k_with "mine mem" => (with_reducible first | assumption | exact List.mem_cons_self | (refine List.mem_cons_of_mem _ ?_; k_extra "mine mem"))
  k_with "k_mem" => (k_extra "mine mem")
  k_with "mine eq" => (assumption)
  k_with "m call ref" => (k_here; (with_reducible show wpAny _ _ (call (Value.ref 320) _) _ _ _); k_dflt (refine' (kinds_ok).use ?zzkB ?zzkF ?zzkX ?zzkN ?zzkT ?zzkf ?zzkd ?zzku ?_); (k_extra "mine rc"); intro l' D' h' tk' F' N' K')
  k_with "m subscriptTail" => (k_here; (with_reducible show wpAny _ _ (subscriptTail _ _ (Value.ref _) (Value.int _ _)) _ _ _); (with_unfolding_all (refine' kinds_item ?zzN ?zzm ?zzK ?zzh0 ?zzh1 ?zzhW ?_ ?zzhs); (case zzN => k_asm); (case zzm => k_extra "mine mem"); (case zzK => k_asm); (case zzh0 => first | assumption | omega); (case zzh1 => first | assumption | omega); (case zzhW => first | assumption | exact rfl); (case zzhs => with_unfolding_all rfl); k_whole); intro a' b' c' N')
  k_with "m UnrEnd" => (k_dflt (refine' unrEnd_tail ?zzF ?zzN ?zzoff ?_; (case zzF => k_asm); (case zzN => k_asm); (case zzoff => exact fun p hp => Nat.ne_of_lt (ktn_ltOf (by assumption) p hp)); k_whole))
  k_with "m call ref" => (k_here; (with_reducible show wpAny _ _ (call (Value.ref 339) _) _ _ _); k_dflt (refine' (number_ok ?zzh0 ?zzh1 ?zzhk0 ?zzhk1 ?zzhb ?zzhi ?zzm1).use ?zzkB ?zzkF ?zzkX ?zzkN ?zzkT ?zzkf ?zzkd ?zzku ?_); (k_extra "mine rc"); (case zzm1 => k_extra "mine mem"); (case zzhi => assumption); (case zzhb => assumption); (case zzh0 => first | assumption | omega); (case zzh1 => first | assumption | omega); (case zzhk0 => first | assumption | omega); (case zzhk1 => first | assumption | omega); (focus (refine rets_rd ?zzz (fun i9 hv9 hb9 t'9 h'9 tk'9 F'9 N'9 => ?_) (fun i9 hv9 t'9 h'9 tk'9 F'9 N'9 => ?_) (fun hv9 t'9 h'9 tk'9 F'9 N'9 => ?_); (case zzz => first | assumption | omega); (all_goals ((try simp only [Int.reduceToNat, loK, hiK] at hv9 hb9); (try simp only [Int.reduceToNat] at hv9); (try (exfalso; exact rd3_nobool hv9)))))))
  k_with "mine end" => ((rename Rets _ _ _ _ _ _ _ => hR); (first | (exact rets_int hR (by k_extra "mine eq") _ _ _ (by assumption) (by first | assumption | exact cb_drop (by assumption) (by kcj_in))) | (exact rets_typ hR (by k_extra "mine eq") _ _ _ (by assumption) (by first | assumption | exact cb_drop (by assumption) (by kcj_in))) | (exact rets_fin hR (by k_extra "mine eq") _ _ _ (by assumption) (by first | assumption | exact cb_drop (by assumption) (by kcj_in))) | (exact rets_bytes hR (by k_extra "mine eq") _ _ _ (by assumption) (by first | assumption | exact cb_drop (by assumption) (by kcj_in))) | (exact rets_bool hR (by k_extra "mine eq") 0 _ _ (by assumption) (by first | assumption | exact cb_drop (by assumption) (by kcj_in)))))
  k_with "m call ref" => (k_here; (with_reducible show wpAny _ _ (call (Value.ref 346) _) _ _ _); k_dflt (refine' (held_ok ?zzh0 ?zzh1 ?zzhk0 ?zzhk1 ?zzhb ?zzhi ?zzm1).use ?zzkB ?zzkF ?zzkX ?zzkN ?zzkT ?zzkf ?zzkd ?zzku ?_); (k_extra "mine rc"); (case zzm1 => k_extra "mine mem"); (case zzhi => assumption); (case zzhb => assumption); (case zzh0 => first | assumption | omega); (case zzh1 => first | assumption | omega); (case zzhk0 => first | assumption | omega); (case zzhk1 => first | assumption | omega); (first | ((focus (refine rets_reads ?zzz (fun i9 hv9 hr9 hb9 t'9 h'9 tk'9 F'9 N'9 => ?_) (fun hv9 hr9 t'9 h'9 tk'9 F'9 N'9 => ?_) (fun hv9 hr9 t'9 h'9 tk'9 F'9 N'9 => ?_); (case zzz => decide); (all_goals ((try simp only [Int.reduceToNat, loK, hiK] at hv9 hb9); (try (exfalso; omega)); (try simp only [Int.reduceToNat] at hv9)))))) | (refine rets_reads4 (fun i9 hv9 t'9 h'9 tk'9 F'9 N'9 => ?_) (fun i9 hv9 t'9 h'9 tk'9 F'9 N'9 => ?_) (fun hv9 t'9 h'9 tk'9 F'9 N'9 => ?_) (fun hv9 t'9 h'9 tk'9 F'9 N'9 => ?_)) | ((focus (refine rets_reads ?zzz (fun i9 hv9 hr9 hb9 t'9 h'9 tk'9 F'9 N'9 => ?_) (fun hv9 hr9 t'9 h'9 tk'9 F'9 N'9 => ?_) (fun hv9 hr9 t'9 h'9 tk'9 F'9 N'9 => ?_); (case zzz => first | decide | assumption | omega); (all_goals ((try simp only [Int.reduceToNat, loK, hiK] at hv9 hb9); (try (exfalso; omega)); (try simp only [Int.reduceToNat] at hv9))))))))
  k_with "mine held" => ((focus (refine rets_reads ?zzz (fun i9 hv9 hr9 hb9 t'9 h'9 tk'9 F'9 N'9 => ?_) (fun hv9 hr9 t'9 h'9 tk'9 F'9 N'9 => ?_) (fun hv9 hr9 t'9 h'9 tk'9 F'9 N'9 => ?_); (case zzz => first | decide | assumption | omega); (all_goals ((try simp only [Int.reduceToNat, loK, hiK] at hv9 hb9); (try (exfalso; omega)); (try simp only [Int.reduceToNat] at hv9))))))
  k_with "mine num" => ((focus (refine rets_rd ?zzz (fun i9 hv9 hb9 t'9 h'9 tk'9 F'9 N'9 => ?_) (fun i9 hv9 t'9 h'9 tk'9 F'9 N'9 => ?_) (fun hv9 t'9 h'9 tk'9 F'9 N'9 => ?_); (case zzz => first | assumption | omega); (all_goals ((try simp only [Int.reduceToNat, loK, hiK] at hv9 hb9); (try simp only [Int.reduceToNat] at hv9); (try (exfalso; exact rd3_nobool hv9)))))))
  k_with "m call ref" => (k_here; (first | ((with_reducible show wpAny _ _ (call (Value.ref 353) _) _ _ _); k_dflt (refine' (lrow_ok ?zzh0 ?zzh1 ?zzh2 ?zzh3 ?zzhb ?zzhi ?zzm1).use ?zzkB ?zzkF ?zzkX ?zzkN ?zzkT ?zzkf ?zzkd ?zzku ?_); (k_extra "mine rc"); (case zzm1 => k_extra "mine mem"); (case zzhi => assumption); (case zzhb => assumption); (case zzh0 => first | assumption | omega); (case zzh1 => first | assumption | omega); (case zzh2 => first | assumption | omega); (case zzh3 => first | assumption | omega); refine rets_row (fun i9 hv9 hb9 t'9 h'9 tk'9 F'9 N'9 => ?_) (fun hv9 t'9 h'9 tk'9 F'9 N'9 => ?_) (fun hv9 t'9 h'9 tk'9 F'9 N'9 => ?_)) | ((with_reducible show wpAny _ _ (call (Value.ref 360) _) _ _ _); k_dflt (refine' (lfar_ok ?zzh0 ?zzh1 ?zzhb ?zzhi ?zzm1).use ?zzkB ?zzkF ?zzkX ?zzkN ?zzkT ?zzkf ?zzkd ?zzku ?_); (k_extra "mine rc"); (case zzm1 => k_extra "mine mem"); (case zzhi => assumption); (case zzhb => assumption); (case zzh0 => first | assumption | omega); (case zzh1 => first | assumption | omega); (focus (refine rets_far (fun i9 hv9 hr9 hb9 t'9 h'9 tk'9 F'9 N'9 => ?_) (fun hv9 hr9 t'9 h'9 tk'9 F'9 N'9 => ?_) (fun hv9 hr9 t'9 h'9 tk'9 F'9 N'9 => ?_); (all_goals ((try (exfalso; omega)))))))))
  k_with "mine lrow" => (refine rets_row (fun i9 hv9 hb9 t'9 h'9 tk'9 F'9 N'9 => ?_) (fun hv9 t'9 h'9 tk'9 F'9 N'9 => ?_) (fun hv9 t'9 h'9 tk'9 F'9 N'9 => ?_))
  k_with "mine lfar" => ((focus (refine rets_far (fun i9 hv9 hr9 hb9 t'9 h'9 tk'9 F'9 N'9 => ?_) (fun hv9 hr9 t'9 h'9 tk'9 F'9 N'9 => ?_) (fun hv9 hr9 t'9 h'9 tk'9 F'9 N'9 => ?_); (all_goals ((try (exfalso; omega)))))))
  k_with "mine held" => (refine rets_reads4 (fun i9 hv9 t'9 h'9 tk'9 F'9 N'9 => ?_) (fun i9 hv9 t'9 h'9 tk'9 F'9 N'9 => ?_) (fun hv9 t'9 h'9 tk'9 F'9 N'9 => ?_) (fun hv9 t'9 h'9 tk'9 F'9 N'9 => ?_))
  k_with "mine held" => ((focus (refine rets_reads ?zzz (fun i9 hv9 hr9 hb9 t'9 h'9 tk'9 F'9 N'9 => ?_) (fun hv9 hr9 t'9 h'9 tk'9 F'9 N'9 => ?_) (fun hv9 hr9 t'9 h'9 tk'9 F'9 N'9 => ?_); (case zzz => decide); (all_goals ((try simp only [Int.reduceToNat, loK, hiK] at hv9 hb9); (try (exfalso; omega)); (try simp only [Int.reduceToNat] at hv9))))))
  k_with "m eval Call" => (refine Call_ ?_)
  k_with "m eval Name" => (k_here; (k_dflt first | (name_kind "free"; refine' nameX_F (by k_asm) (by exact rfl) ?zzm ?zzd ?_ (by kernel_rfl) (by exact rfl) (by kernel_rfl) (by kernel_rfl); (case zzm => k_mem); (case zzd => k_asm); k_whole) | (k_extra "mine name")))
  k_with "mine laenter" => (refine' kla_code ?zzk1 ?zzk2 ?zzk3 ?zzk4 ?zzk5 ?zzkA ?zzkF ?zzkK ?zzk6 ?zzk7 ?zzk8 ?zzk9 ?zzkB ?_ ?zzc2 ?zzc3 ?zzc4 ?zzc5; (case zzkA => exact rfl); (case zzkF => exact rfl); (case zzkK => assumption); (case zzk1 => k_asm); (case zzk2 => k_asm); (case zzk3 => k_asm); (case zzk4 => k_asm); (case zzk5 => k_asm); (case zzk6 => assumption); (case zzk7 => exact codeRec_news (by k_asm) (by assumption) (by assumption) (by assumption)); (case zzk8 => ktr_room); (case zzk9 => exact rfl); (case zzc5 => decide); (case zzkB => exact locs rfl); (case zzc2 => exact rfl); (case zzc3 => exact rfl); (case zzc4 => exact rfl); k_whole; intro g' L' h' FG' F' N' B' X' T'; (try dsimp only); (try k_lift B'))
  k_with "mine any" => (refine saysRet_any (fun i9 hv9 t'9 h'9 tk'9 F'9 N'9 => ?_) (fun i9 hv9 t'9 h'9 tk'9 F'9 N'9 => ?_) (fun i9 hv9 t'9 h'9 tk'9 F'9 N'9 => ?_) (fun hv9 e'9 g'9 h'9 tk'9 FG'9 U'9 R'9 => ?_) (fun hv9 e'9 g'9 h'9 tk'9 FG'9 U'9 R'9 => ?_))
  trivial
section
theorem kw68 : True := by
  w_top off
  k_with "mine room" => (first | (with_reducible exact room_le (by assumption) (by decide)) | ((try simp only [depth_under_make, depth_under_kw, depth_in1, depth_deeper, depth_caller, units_under_make, units_in1, units_deeper, Around.mark_units, units_caller]); (try dsimp only [ktrTop]); (first | (with_reducible exact room_le (by assumption) (by decide)) | (with_reducible exact room_le2 (by assumption) (by decide)) | (with_reducible exact room_le3 (by assumption) (by decide)) | (with_reducible exact room_le4 (by assumption) (by decide)))))
  k_with "k_room" => (k_extra "mine room")
  k_with "k_units" => (k_extra "mine room")
  k_with "mine eq" => (first | assumption | rfl)
  trivial
section
variable {w : World} {mean : ExcName → Option Value} {mg mb : Str → Option Value} {p : Program} {loose : List Str} {news : List (Addr × Obj)} {lam c' x dx d c1 c2 c3 c4 c5 c6 c7 c8 C : Addr} {oc o1 o2 o3 o4 o5 o6 o7 o8 : Obj} {ivs : Array Value} {qual : Str} {qt tp tv to tki td : Tok} {pm ctv : Value} {b : Array UInt8} {pos v off kind dd : Int} {k : Nat} {bb : Bool}
theorem lam13 (hc : (c', oc) ∈ news) (hd : oc.data = .fields ivs) (hv : ivs[1]? = some (.str qual qt)) (hb : b.size ≤ 64) (m1 : (x, tabObj' dx d pos tp) ∈ news) (m2 : (dx, dictOf [] 0) ∈ news) (m3 : (d, baObj b) ∈ news)
   (h0 : 0 ≤ pos) (h1 : pos < 48) (h2 : 0 ≤ v) (h3 : v < 24) (h4 : 0 ≤ off) (h5 : off < 24) (n5 : (c5, o5) ∈ news) (d5 : o5.data = .cell (some (.int pos tp))) (n1 : (c1, o1) ∈ news) (d1 : o1.data = .cell (some (.ref d)))
   (hfn : (lam, kla_obj "<lambda>" qual (lamArgs 13) (lamBody 13) (lamScope 13) [("pos", c5), ("data", c1)] pm c' ctv) ∈ news) :
   Calls w mean mg mb p loose 20 300 (.ref lam) [] news (SaysRet news (.typ)) := by
  unfold Calls
  k_fill
  intro dp un gd cn cs a ccd cl outer A₀ base h₀ L m s Q E B F X N T hf hd hu hret
  refine wpAny_call ?_
  k_dflt k_extra "mine laenter"
  show wpAny _ _ (eval (.Call (.Name _ _) _ _ _) _) _ _ _
  k_fold
  k_steps
  try dsimp only [InitBack]
  k_steps
  k_extra "mine end"
end
end
section
theorem clsK_ne {k : Nat} (h : k < 9) : clsK k ≠ 199 ∧ clsK k ≠ 211 := (by decide : ∀ k : Nat, k < 9 → clsK k ≠ 199 ∧ clsK k ≠ 211) k h
theorem lohi_in {k : Nat} (h : k < 9) : -(2 ^ 63) ≤ loK k ∧ hiK k ≤ 2 ^ 64 := (by decide : ∀ k : Nat, k < 9 → -(2 ^ 63) ≤ loK k ∧ hiK k ≤ 2 ^ 64) k h
theorem klkh {k : Nat} (h : k < 9) (h1 : k ≠ 0) : kl k = loK k ∧ kh k = hiK k := (by decide : ∀ k : Nat, k < 9 → k ≠ 0 → kl k = loK k ∧ kh k = hiK k) k h h1
def DefOk (dA : Ans) (kind off : Int) : Prop := (kind = 0 ∧ ∃ bb, dA = .bool bb) ∨ (kind ≠ 0 ∧ dA = .int (defK kind.toNat off))
section
variable {w : World} {mean : ExcName → Option Value} {mg mb : Str → Option Value} {p : Program} {loose : List Str} {news : List (Addr × Obj)} {lam c' x dx d c1 c2 c3 c4 c5 c6 c7 c8 lo : Addr} {oc o1 o2 o3 o4 o5 o6 o7 o8 : Obj} {ivs : Array Value} {qual : Str} {qt tp tv to tki td tk : Tok} {pm ctv : Value} {b : Array UInt8} {pos v off kind : Int} {dA : Ans} {vs : List Value} {c : Nat}
theorem lam1c (hc : (c', oc) ∈ news) (hd : oc.data = .fields ivs) (hv : ivs[1]? = some (.str qual qt)) (hb : b.size ≤ 64) (m1 : (x, tabObj' dx d pos tp) ∈ news) (m2 : (dx, dictOf [] 0) ∈ news) (m3 : (d, baObj b) ∈ news)
   (h0 : 0 ≤ pos) (h1 : pos < 48) (h2 : 0 ≤ v) (h3 : v < 24) (h4 : 0 ≤ off) (h5 : off < 24) (n6 : (c6, o6) ∈ news) (d6 : o6.data = .cell (some (.ref x))) (n5 : (c5, o5) ∈ news) (d5 : o5.data = .cell (some (.int pos tp))) (n4 : (c4, o4) ∈ news) (d4 : o4.data = .cell (some (.int off to))) (n2 : (c2, o2) ∈ news) (d2 : o2.data = .cell (some (.ref (clsK kind.toNat)))) (hk1 : 0 ≤ kind) (hk2 : kind < 9)
   (hfn : (lam, kla_obj "<lambda>" qual (lamArgs 1) (lamBody 1) (lamScope 1) [("table", c6), ("pos", c5), ("off", c4), ("flags", c2)] pm c' ctv) ∈ news) :
   Calls w mean mg mb p loose 20 300 (.ref lam) [] news (SaysRet news (reads kind.toNat b (pos + off))) := by
  by_cases hk : kind.toNat = 0
  · rw [hk] at d2 ⊢
    exact lam1Z hc hd hv hb m1 m2 m3 h0 h1 h2 h3 h4 h5 n6 d6 n5 d5 n4 d4 n2 d2 (kind_61 w) hfn
  · exact lam1N hc hd hv hb m1 m2 m3 h0 h1 h2 h3 h4 h5 n6 d6 n5 d5 n4 d4 n2 d2 (kind_cls w (by omega)) hk (clsK_ne (by omega)).1 (clsK_ne (by omega)).2 hfn
theorem lam2c (hc : (c', oc) ∈ news) (hd : oc.data = .fields ivs) (hv : ivs[1]? = some (.str qual qt)) (hb : b.size ≤ 64) (m1 : (x, tabObj' dx d pos tp) ∈ news) (m2 : (dx, dictOf [] 0) ∈ news) (m3 : (d, baObj b) ∈ news)
   (h0 : 0 ≤ pos) (h1 : pos < 48) (h2 : 0 ≤ v) (h3 : v < 24) (h4 : 0 ≤ off) (h5 : off < 24) (n8 : (c8, o8) ∈ news) (d8 : o8.data = .cell (some (dA.val td))) (n7 : (c7, o7) ∈ news) (d7 : o7.data = .cell (some (.int v tv))) (n6 : (c6, o6) ∈ news) (d6 : o6.data = .cell (some (.ref x))) (n2 : (c2, o2) ∈ news) (d2 : o2.data = .cell (some (.ref (clsK kind.toNat)))) (hk1 : 0 ≤ kind) (hk2 : kind < 9) (hA : DefOk dA kind off)
   (hfn : (lam, kla_obj "<lambda>" qual (lamArgs 2) (lamBody 2) (lamScope 2) [("without", c8), ("v", c7), ("table", c6), ("flags", c2)] pm c' ctv) ∈ news) :
   Calls w mean mg mb p loose 20 300 (.ref lam) [] news (SaysRet news (slotB b pos v dA kind.toNat)) := by
  rcases hA with ⟨rfl, bb, rfl⟩ | ⟨hk, rfl⟩
  · exact lam2Z hc hd hv hb m1 m2 m3 h0 h1 h2 h3 h4 h5 n8 d8 n7 d7 n6 d6 n2 d2 hfn
  · have hin := defK_in (k := kind.toNat) (off := off) (by omega) (by omega)
    have hlh := lohi_in (k := kind.toNat) (by omega)
    have := lam2N (w := w) (mean := mean) (mg := mg) (mb := mb) (p := p) (loose := loose) hc hd hv hb m1 m2 m3 h0 h1 h2 h3 h4 h5 n8 d8 n7 d7 n6 d6 n2 d2 (kind_cls w (by omega)) (by omega) (clsK_ne (by omega)).1 (clsK_ne (by omega)).2 (by omega) (by omega) hfn
    rw [if_pos hin] at this
    exact this
theorem lam3c (hc : (c', oc) ∈ news) (hd : oc.data = .fields ivs) (hv : ivs[1]? = some (.str qual qt)) (hb : b.size ≤ 64) (m1 : (x, tabObj' dx d pos tp) ∈ news) (m2 : (dx, dictOf [] 0) ∈ news) (m3 : (d, baObj b) ∈ news)
   (h0 : 0 ≤ pos) (h1 : pos < 48) (h2 : 0 ≤ v) (h3 : v < 24) (h4 : 0 ≤ off) (h5 : off < 24) (n7 : (c7, o7) ∈ news) (d7 : o7.data = .cell (some (.int v tv))) (n6 : (c6, o6) ∈ news) (d6 : o6.data = .cell (some (.ref x))) (n3 : (c3, o3) ∈ news) (d3 : o3.data = .cell (some (.int kind tki))) (n2 : (c2, o2) ∈ news) (d2 : o2.data = .cell (some (.ref (clsK kind.toNat)))) (hk1 : 0 ≤ kind) (hk2 : kind < 9)
   (hfn : (lam, kla_obj "<lambda>" qual (lamArgs 3) (lamBody 3) (lamScope 3) [("v", c7), ("table", c6), ("kind", c3), ("flags", c2)] pm c' ctv) ∈ news) :
   Calls w mean mg mb p loose 20 300 (.ref lam) [] news (SaysRet news .typ) := by
  by_cases hk : kind = 0
  · subst hk
    exact lam3Z hc hd hv hb m1 m2 m3 h0 h1 h2 h3 h4 h5 n7 d7 n6 d6 n3 d3 n2 d2 hfn
  · have hlh := lohi_in (k := kind.toNat) (by omega)
    have hkk := klkh (k := kind.toNat) (by omega) (by omega)
    have hin := defK_in (k := kind.toNat) (off := 0) (by omega) (by omega)
    have := lam3N (w := w) (mean := mean) (mg := mg) (mb := mb) (p := p) (loose := loose) hc hd hv hb m1 m2 m3 h0 h1 h2 h3 h4 h5 n7 d7 n6 d6 n3 d3 n2 d2 (kind_cls w (by omega)) (by omega) (clsK_ne (by omega)).1 (clsK_ne (by omega)).2 hk1 hk2 (by omega) (by omega) hfn
    rw [if_neg (by omega)] at this
    exact this
theorem lam4c (hc : (c', oc) ∈ news) (hd : oc.data = .fields ivs) (hv : ivs[1]? = some (.str qual qt)) (hb : b.size ≤ 64) (m1 : (x, tabObj' dx d pos tp) ∈ news) (m2 : (dx, dictOf [] 0) ∈ news) (m3 : (d, baObj b) ∈ news)
   (h0 : 0 ≤ pos) (h1 : pos < 48) (h2 : 0 ≤ v) (h3 : v < 24) (h4 : 0 ≤ off) (h5 : off < 24) (n7 : (c7, o7) ∈ news) (d7 : o7.data = .cell (some (.int v tv))) (n6 : (c6, o6) ∈ news) (d6 : o6.data = .cell (some (.ref x))) (n3 : (c3, o3) ∈ news) (d3 : o3.data = .cell (some (.int kind tki))) (n2 : (c2, o2) ∈ news) (d2 : o2.data = .cell (some (.ref (clsK kind.toNat)))) (hk1 : 0 ≤ kind) (hk2 : kind < 9)
   (hfn : (lam, kla_obj "<lambda>" qual (lamArgs 4) (lamBody 4) (lamScope 4) [("v", c7), ("table", c6), ("kind", c3), ("flags", c2)] pm c' ctv) ∈ news) :
   Calls w mean mg mb p loose 20 300 (.ref lam) [] news (SaysRet news .typ) := by
  by_cases hk : kind = 0
  · subst hk
    exact lam4Z hc hd hv hb m1 m2 m3 h0 h1 h2 h3 h4 h5 n7 d7 n6 d6 n3 d3 n2 d2 hfn
  · have hlh := lohi_in (k := kind.toNat) (by omega)
    have hkk := klkh (k := kind.toNat) (by omega) (by omega)
    have hin := defK_in (k := kind.toNat) (off := 0) (by omega) (by omega)
    have := lam4N (w := w) (mean := mean) (mg := mg) (mb := mb) (p := p) (loose := loose) hc hd hv hb m1 m2 m3 h0 h1 h2 h3 h4 h5 n7 d7 n6 d6 n3 d3 n2 d2 (kind_cls w (by omega)) (by omega) (clsK_ne (by omega)).1 (clsK_ne (by omega)).2 hk1 hk2 (by omega) (by omega) hfn
    rw [if_neg (by omega)] at this
    exact this
theorem lslot_ok (h0 : 0 ≤ pos) (h1 : pos < 2 ^ 33) (h2 : 0 ≤ v) (h3 : v < 2 ^ 17) (hk0 : 0 ≤ kind) (hk1 : kind < 9) (hb : b.size ≤ 64) (hi : IntsAre vs (ocs b)) (hA : DefOk dA kind off) (m1 : (lo, listOf vs.toArray c) ∈ news) :
    Calls w mean mg mb p loose 7 90 (.ref 367) [.ref lo, .int pos tp, .int v tv, dA.val td, .int kind tk] news (fun Q E base h₀ L m fr s => Rets (slotB b pos v dA kind.toNat).val Q h₀ L m news s) := by
  rcases hA with ⟨_, bb, rfl⟩ | ⟨hk, rfl⟩
  · exact lslot0_ok h0 h1 h2 h3 hk0 hk1 hb hi m1
  · exact lslotN_ok h0 h1 h2 h3 hk0 hk1 hb hi m1
end
end
theorem kw69 : True := by
  w_top off
  k_with_none
  k_with "k_ne" => ((try dsimp only); with_reducible first | exact Nat.ne_of_lt (by k_extra "mine lt") | exact Nat.ne_of_gt (by k_extra "mine lt") | fail)
  k_with "mine lt" => (first | assumption | (refine Nat.lt_trans (by assumption) ?_; k_extra "mine lt"))
  k_with "mine name" => (first | (name_kind "local"; refine' nameX_L (by k_asm) (by exact rfl) ?_ (by kernel_rfl) (by kernel_rfl) (by kernel_rfl); k_whole) | (name_kind "globalImplicit"; refine' nameX_K (by k_asm) (by k_asm) (by k_asm) (by k_is) ?_ (by kernel_rfl) (by kernel_rfl) (by kernel_rfl); k_whole) | (name_kind "globalImplicit"; refine' nameX_B (by k_asm) (by k_asm) (by k_asm) (by k_is) (by boot_fast) (by decide) ?_ (by kernel_rfl) (by kernel_rfl) (by kernel_rfl); k_whole))
  k_with "m eval Name" => (k_here; (k_dflt first | (name_kind "cell"; refine' nameX_C (by k_asm) (by exact rfl) ?zzm ?zzd ?_ (by kernel_rfl) (by exact rfl) (by kernel_rfl); (case zzm => k_mem); (case zzd => k_asm); k_whole) | (k_extra "mine name")))
  k_with "m eval Call" => (refine Call_ ?_)
  k_with "mine mem" => (with_reducible first | assumption | exact List.mem_cons_self | (refine List.mem_cons_of_mem _ ?_; k_extra "mine mem"))
  k_with "k_mem" => (k_extra "mine mem")
  k_with "mine room" => (first | (with_reducible exact room_le (by assumption) (by decide)) | ((try simp only [depth_under_make, depth_under_kw, depth_in1, depth_deeper, depth_caller, units_under_make, units_in1, units_deeper, Around.mark_units, units_caller]); (try dsimp only [ktrTop]); (first | (with_reducible exact room_le (by assumption) (by decide)) | (with_reducible exact room_le2 (by assumption) (by decide)) | (with_reducible exact room_le3 (by assumption) (by decide)) | (with_reducible exact room_le4 (by assumption) (by decide)))))
  k_with "k_room" => (k_extra "mine room")
  k_with "k_units" => (k_extra "mine room")
  trivial
section
theorem kw70 : True := by
  w_top off
  k_with "mine rc" => ((case zzkB => k_asm); (case zzkF => k_asm); (case zzkX => k_asm); (case zzkN => k_asm); (case zzkT => k_asm); (case zzkf => first | k_dflt exact rfl | assumption); (case zzkd => k_extra "mine room"); (case zzku => k_extra "mine room"))
  k_with "m call ref" => (k_here; (with_reducible show wpAny _ _ (call (Value.ref 327) _) _ _ _); k_dflt (refine' (take_n ?zzhn ?zzhlen ?zzhk ?zzhkn ?zzhk2 ?zzhm ?zzhbl ?zzhr).use ?zzkB ?zzkF ?zzkX ?zzkN ?zzkT ?zzkf ?zzkd ?zzku ?_); (k_extra "mine rc"); (case zzhn => assumption); (case zzhlen => exact Nat.le_trans (List.length_take_le _ _) (by decide)); (case zzhk => with_reducible first | exact Int.le_refl 0 | assumption); (case zzhkn => with_reducible first | exact Int.le_refl 0 | assumption); (case zzhk2 => decide); (case zzhm => decide); (case zzhbl => k_ne); (case zzhr => k_all); (intro r' t' k' t2' c' h' tk' hr0 hr1 hk0 hk1 F' N'))
  trivial
theorem pieceA {w : World} {mean : ExcName → Option Value} {mg mb : Str → Option Value} {p : Program} {loose : List Str} {c1 c2 c3 c4 c5 c6 c7 c8 : Addr} {o1 o2 o3 o4 o5 o6 o7 o8 : Obj} {l : Addr} {vs : List Value} {ns : List Int} (hi : IntsAre vs ns) (hlen : ns.length ≤ 63)
   (d1 : o1.data = .cell none) (d2 : o2.data = .cell none) (d3 : o3.data = .cell none) (d4 : o4.data = .cell none) (d5 : o5.data = .cell none) (d6 : o6.data = .cell none) (d7 : o7.data = .cell none) (d8 : o8.data = .cell none)
   (dp un : Nat) (gd : Option (List Code)) (a : Addr) (A₀ : Around) (base h₀ : Heap) (L : Addr) (s : Shared) (Q : Flow → Shared → Prop) (E : Value → Shared → Prop) (B : Below A₀ base [] h₀) (X : (hd.heap_1 w.params).In h₀) (T : Top p loose mean mg mb h₀) (XB : (hd.heap_1 w.params).In base) (TB : Top p loose mean mg mb base) (hd : dp + 50 < recursionLimit) (hu : un + 900 < cLine) (l0 : 404 < c1) (l1 : c1 < c2) (l2 : c2 < c3) (l3 : c3 < c4) (l4 : c4 < c5) (l5 : c5 < c6) (l6 : c6 < c7) (l7 : c7 < c8)
   (F : Fr h₀ L s.heap (fun y => if y = Str.ofString "script" then some (.ref l) else none))
   (hl : h₀.IsList l vs.toArray)
   (N : News h₀ L s.heap [(c8, o8), (c7, o7), (c6, o6), (c5, o5), (c4, o4), (c3, o3), (c2, o2), (c1, o1), (404, tabObj #[])])
   (hret : ∀ (h' : Heap) (tk' : Nat) (x D : Addr) (ws : List Value) (c c' : Nat) (k pos v off kind cut : Int) (tk tp tv to tki tc : Tok) (q3 q4 q5 q7 : Obj),
     Fr h₀ L h' (fun y => if y = Str.ofString "cut" then some (.int cut tc) else if y = Str.ofString "box" then some (.ref x) else if y = Str.ofString "script" then some (.ref l) else none) →
     News h₀ L h' [(x, listOf [.ref D, .int k tk].toArray c), (D, listOf ws.toArray c'), (c8, o8), (c7, q7), (c6, o6), (c5, q5), (c4, q4), (c3, q3), (c2, o2), (c1, o1), (404, tabObj #[])] →
     q5.data = .cell (some (.int pos tp)) → q7.data = .cell (some (.int v tv)) → q4.data = .cell (some (.int off to)) → q3.data = .cell (some (.int kind tki)) →
     0 ≤ pos → pos < 48 → 0 ≤ v → v < 24 → 0 ≤ off → off < 24 → 0 ≤ kind → kind < 9 → 0 ≤ cut → cut < 4 → IntsAre ws (ns.take 36) → c8 < D → D < x → Q .next { s with heap := h', toks := tk' }) :
   wpAny (model PySem.Challenge.rw_ke0006_01.row.prog w) (ktrTop dp un gd (Str.ofString "law") lawScope L a (.ref 408) [(Str.ofString "without", c8), (Str.ofString "v", c7), (Str.ofString "table", c6), (Str.ofString "pos", c5), (Str.ofString "off", c4), (Str.ofString "kind", c3), (Str.ofString "flags", c2), (Str.ofString "data", c1)] []) (execs lawA (envX (Str.ofString "law") lawScope L a (.ref 408) [(Str.ofString "without", c8), (Str.ofString "v", c7), (Str.ofString "table", c6), (Str.ofString "pos", c5), (Str.ofString "off", c4), (Str.ofString "kind", c3), (Str.ofString "flags", c2), (Str.ofString "data", c1)])) Q E s := by
  revert X; k_fill; intro X
  replace l0 := ltN l0; replace l1 := ltN l1; replace l2 := ltN l2; replace l3 := ltN l3; replace l4 := ltN l4; replace l5 := ltN l5; replace l6 := ltN l6; replace l7 := ltN l7
  show wpAny _ _ (execs (_ :: _ :: _ :: _ :: _ :: [_]) _) _ _ _
  k_steps
  all_goals (refine hret _ _ _ _ _ _ _ _ _ _ _ _ _ _ _ _ _ _ _ _ _ _ _ (by assumption) (by assumption) (by assumption) (by assumption) (by assumption) (by assumption) (by assumption) (by assumption) (by assumption) (by assumption) (by assumption) (by assumption) (by assumption) (by assumption) (by assumption) (by assumption) (by assumption) (ltN (by omega)) (ltN (by omega)))
end
section
theorem kw71 : True := by
  w_top off
  k_with "m call ref" => (k_here; (with_reducible show wpAny _ _ (call (Value.ref 332) _) _ _ _); k_dflt (refine' (word_ok).use ?zzkB ?zzkF ?zzkX ?zzkN ?zzkT ?zzkf ?zzkd ?zzku ?_); (k_extra "mine rc"); (intro h' tk' D' ws' c' ns' F' N' hI' hL' hB' l1))
  trivial
theorem octs_app {ws ws2 : List Value} {os ns : List Int} (hw : Octs ws os) (hi : IntsAre ws2 (os ++ ns)) (hb : ∀ n ∈ ns, 0 ≤ n ∧ n < 256) : Octs ws2 (os ++ ns) :=
  ⟨hi, fun n hn => (List.mem_append.mp hn).elim (hw.2 n) (hb n)⟩
theorem len4 {os ns : List Int} (h : ns.length = 4) : (os ++ ns).length = os.length + 4 := by rw [List.length_append, h]
theorem turnB {w : World} {mean : ExcName → Option Value} {mg mb : Str → Option Value} {p : Program} {loose : List Str} {c1 c2 c3 c4 c5 c6 c7 c8 : Addr} {lo : Addr} {ws : List Value} {co : Nat} {os : List Int} {n : Int} {t : Tok} {m : Str → Option Value} {rest : List (Addr × Obj)}
   (dp un : Nat) (gd : Option (List Code)) (a : Addr) (A₀ : Around) (base h₀ : Heap) (L : Addr) (s : Shared) (Q : Flow → Shared → Prop) (E : Value → Shared → Prop) (B : Below A₀ base [] h₀) (X : (hd.heap_1 w.params).In h₀) (T : Top p loose mean mg mb h₀) (XB : (hd.heap_1 w.params).In base) (TB : Top p loose mean mg mb base) (hd : dp + 50 < recursionLimit) (hu : un + 900 < cLine) (hw : Octs ws os) (hos : os.length ≤ 60)
   (F : Fr h₀ L s.heap (fun z => if z = Str.ofString "number" then some (.int n t) else if z = Str.ofString "octets" then some (.ref lo) else m z))
   (N : News h₀ L s.heap ((lo, listOf ws.toArray co) :: rest))
   (hret : ∀ (h' : Heap) (tk' : Nat) (lo' : Addr) (ws' : List Value) (co' : Nat) (os' : List Int),
     Fr h₀ L h' (fun z => if z = Str.ofString "octets" then some (.ref lo') else if z = Str.ofString "number" then some (.int n t) else if z = Str.ofString "octets" then some (.ref lo) else m z) →
     News h₀ L h' ((lo', listOf ws'.toArray co') :: rest) → Octs ws' os' → os'.length = os.length + 4 → Q .next { s with heap := h', toks := tk' }) :
   wpAny (model PySem.Challenge.rw_ke0006_01.row.prog w) (ktrTop dp un gd (Str.ofString "law") lawScope L a (.ref 408) [(Str.ofString "without", c8), (Str.ofString "v", c7), (Str.ofString "table", c6), (Str.ofString "pos", c5), (Str.ofString "off", c4), (Str.ofString "kind", c3), (Str.ofString "flags", c2), (Str.ofString "data", c1)] []) (execs octBody (envX (Str.ofString "law") lawScope L a (.ref 408) [(Str.ofString "without", c8), (Str.ofString "v", c7), (Str.ofString "table", c6), (Str.ofString "pos", c5), (Str.ofString "off", c4), (Str.ofString "kind", c3), (Str.ofString "flags", c2), (Str.ofString "data", c1)])) Q E s := by
  revert X; k_fill; intro X
  have hi := hw.1
  show wpAny _ _ (execs [_] _) _ _ _
  k_steps
  all_goals (exact hret _ _ _ _ _ _ (by assumption) (cb_drop (by assumption) (by kcj_in)) (octs_app hw (by assumption) (by assumption)) (len4 (by assumption)))
theorem len60 {os : List Int} {i k : Nat} {l : List Int} (h : os.length = 4 * i) (h2 : i < (List.take (min 21 k - 5) l).length) : os.length ≤ 60 := by
  have := List.length_take_le (min 21 k - 5) l
  omega
theorem len64 {os : List Int} {k : Nat} {l : List Int} (h : os.length = 4 * (List.take (min 21 k - 5) l).length) : os.length ≤ 64 := by
  have := List.length_take_le (min 21 k - 5) l
  omega
theorem octs_nil : Octs [] [] := ⟨.nil, fun _ h => nomatch h⟩
theorem fr_cut {h₀ h : Heap} {L lo : Addr} {m : Str → Option Value} {v : Value} (F : Fr h₀ L h m) (h1 : m (Str.ofString "octets") = some (.ref lo)) (h2 : m (Str.ofString "cut") = some v) :
    Fr h₀ L h (fun z => if z = Str.ofString "octets" then some (.ref lo) else if z = Str.ofString "cut" then some v else m z) := by
  have e : (fun z => if z = Str.ofString "octets" then some (.ref lo) else if z = Str.ofString "cut" then some v else m z) = m := by
    funext z
    by_cases a : z = Str.ofString "octets"
    · subst a; simp [h1]
    · by_cases b : z = Str.ofString "cut"
      · subst b; rw [if_neg a, if_pos rfl, h2]
      · rw [if_neg a, if_neg b]
  rw [e]; exact F
theorem fr_cut2 {h₀ h : Heap} {L lo : Addr} {m m₀ : Str → Option Value} {v : Value} (F : Fr h₀ L h m) (h1 : m (Str.ofString "octets") = some (.ref lo)) (hk : ∀ z, z ≠ Str.ofString "number" → z ≠ Str.ofString "octets" → m z = m₀ z) (h2 : m₀ (Str.ofString "cut") = some v) :
    Fr h₀ L h (fun z => if z = Str.ofString "octets" then some (.ref lo) else if z = Str.ofString "cut" then some v else m z) := fr_cut F h1 ((hk _ (by decide) (by decide)).trans h2)
theorem sel_keep {m : Str → Option Value} {x y : Str} {a b c : Option Value} : ∀ z, z ≠ x → z ≠ y → (if z = y then a else if z = x then b else if z = y then c else m z) = m z := fun z h1 h2 => by
  rw [if_neg h2, if_neg h1, if_neg h2]
theorem kw72 : True := by
  w_top off
  k_with "m pyIter ref" => (k_here; k_dflt ((focus (refine' iter_oct (y := Str.ofString "octets") (ws := []) (co := 0) ?zzhxy ?zzhh ?zzhl ?zzhi ?zzhw ?zzhm ?zzhF ?zzhN ?zzturn (fun m₁9 lo9 ws9 co9 os9 h9 tk9 hO'9 hL'9 F'9 hm'9 hk'9 N'9 => ?_); (case zzhF => k_asm); (case zzhm => exact rfl); (case zzhN => exact news_dup (by k_asm) (by k_mem)); (case zzhl => exact List.mem_cons_self); (case zzhi => assumption); (case zzhxy => decide); (case zzhh => exact rfl); (case zzhw => exact octs_nil); (case zzturn => intro n t i m₁ lo ws co os own h tk hlt hO hL F' N'; refine turnB _ _ _ _ _ _ _ _ _ _ _ (by assumption) (by assumption) (by assumption) (by assumption) (by assumption) (by assumption) (by assumption) hO (len60 hL hlt) F' N' (fun h' tk' lo' ws' co' os' F'' N'' hO' hL' => ⟨rfl, h', tk', _, lo', ws', co', os', rfl, F'', rfl, sel_keep, N'', hO', hL'⟩)); (all_goals ((try try dsimp only)))))))
  k_with "m exec For Name Subscript cons nil" => (k_here; (rename Fr _ _ _ _ => lF'); (with_unfolding_all (refine' For_invVF lF' ?zzk1 ?zzk2 ?_ ?zzk3 ?zzk4); (case zzk1 => exact rfl); (case zzk2 => exact rfl); (case zzk3 => exact fun _ => rfl); (case zzk4 => assumption); k_whole))
  trivial
theorem pieceB {w : World} {mean : ExcName → Option Value} {mg mb : Str → Option Value} {p : Program} {loose : List Str} {c1 c2 c3 c4 c5 c6 c7 c8 : Addr} {l x D : Addr} {ws : List Value} {c c' : Nat} {ns : List Int} {tk tc : Tok} {cut k : Int} {m : Str → Option Value} {rest : List (Addr × Obj)} (hi : IntsAre ws (ns.take 36))
   (dp un : Nat) (gd : Option (List Code)) (a : Addr) (A₀ : Around) (base h₀ : Heap) (L : Addr) (s : Shared) (Q : Flow → Shared → Prop) (E : Value → Shared → Prop) (B : Below A₀ base [] h₀) (X : (hd.heap_1 w.params).In h₀) (T : Top p loose mean mg mb h₀) (XB : (hd.heap_1 w.params).In base) (TB : Top p loose mean mg mb base) (hd : dp + 50 < recursionLimit) (hu : un + 900 < cLine) (lx : D < x) (hE : PassesOwn (model PySem.Challenge.rw_ke0006_01.row.prog w) (ktrTop dp un gd (Str.ofString "law") lawScope L a (.ref 408) [(Str.ofString "without", c8), (Str.ofString "v", c7), (Str.ofString "table", c6), (Str.ofString "pos", c5), (Str.ofString "off", c4), (Str.ofString "kind", c3), (Str.ofString "flags", c2), (Str.ofString "data", c1)] []) (envX (Str.ofString "law") lawScope L a (.ref 408) [(Str.ofString "without", c8), (Str.ofString "v", c7), (Str.ofString "table", c6), (Str.ofString "pos", c5), (Str.ofString "off", c4), (Str.ofString "kind", c3), (Str.ofString "flags", c2), (Str.ofString "data", c1)]) E)
   (F : Fr h₀ L s.heap (fun y => if y = Str.ofString "cut" then some (.int cut tc) else if y = Str.ofString "box" then some (.ref x) else m y))
   (N : News h₀ L s.heap ((x, listOf [.ref D, .int k tk].toArray c) :: (D, listOf ws.toArray c') :: rest))
   (hret : ∀ (h' : Heap) (tk' : Nat) (lo' : Addr) (m' : Str → Option Value) (ws' : List Value) (co' : Nat) (os' : List Int),
     Fr h₀ L h' (fun z => if z = Str.ofString "octets" then some (.ref lo') else if z = Str.ofString "cut" then some (.int cut tc) else m' z) →
     News h₀ L h' ((lo', listOf ws'.toArray co') :: rest) → Octs ws' os' → os'.length ≤ 64 → Q .next { s with heap := h', toks := tk' }) :
   wpAny (model PySem.Challenge.rw_ke0006_01.row.prog w) (ktrTop dp un gd (Str.ofString "law") lawScope L a (.ref 408) [(Str.ofString "without", c8), (Str.ofString "v", c7), (Str.ofString "table", c6), (Str.ofString "pos", c5), (Str.ofString "off", c4), (Str.ofString "kind", c3), (Str.ofString "flags", c2), (Str.ofString "data", c1)] []) (execs lawB (envX (Str.ofString "law") lawScope L a (.ref 408) [(Str.ofString "without", c8), (Str.ofString "v", c7), (Str.ofString "table", c6), (Str.ofString "pos", c5), (Str.ofString "off", c4), (Str.ofString "kind", c3), (Str.ofString "flags", c2), (Str.ofString "data", c1)])) Q E s := by
  revert X; k_fill; intro X
  replace lx := ltN lx
  show wpAny _ _ (execs [_, _] _) _ _ _
  k_steps
  all_goals (exact hret _ _ _ _ _ _ _ (fr_cut2 (by assumption) (by assumption) (by assumption) rfl) (cb_drop (by assumption) (by kcj_in)) (by assumption) (len64 (by assumption)))
end
theorem kw73 : True := by
  w_top off
  k_with_none
  k_with "k_ne" => ((try dsimp only); with_reducible first | exact Nat.ne_of_lt (by k_extra "mine lt") | exact Nat.ne_of_gt (by k_extra "mine lt") | fail)
  k_with "mine lt" => (first | assumption | (refine Nat.lt_trans (by assumption) ?_; k_extra "mine lt"))
  k_with "mine name" => (first | (name_kind "local"; refine' nameX_L (by k_asm) (by exact rfl) ?_ (by kernel_rfl) (by kernel_rfl) (by kernel_rfl); k_whole) | (name_kind "globalImplicit"; refine' nameX_K (by k_asm) (by k_asm) (by k_asm) (by k_is) ?_ (by kernel_rfl) (by kernel_rfl) (by kernel_rfl); k_whole) | (name_kind "globalImplicit"; refine' nameX_B (by k_asm) (by k_asm) (by k_asm) (by k_is) (by boot_fast) (by decide) ?_ (by kernel_rfl) (by kernel_rfl) (by kernel_rfl); k_whole))
  k_with "m eval Name" => (k_here; (k_dflt first | (name_kind "cell"; refine' nameX_C (by k_asm) (by exact rfl) ?zzm ?zzd ?_ (by kernel_rfl) (by exact rfl) (by kernel_rfl); (case zzm => k_mem); (case zzd => k_asm); k_whole) | (k_extra "mine name")))
  k_with "m eval Call" => (refine Call_ ?_)
  k_with "mine mem" => (with_reducible first | assumption | exact List.mem_cons_self | (refine List.mem_cons_of_mem _ ?_; k_extra "mine mem"))
  k_with "k_mem" => (k_extra "mine mem")
  k_with "mine room" => (first | (with_reducible exact room_le (by assumption) (by decide)) | ((try simp only [depth_under_make, depth_under_kw, depth_in1, depth_deeper, depth_caller, units_under_make, units_in1, units_deeper, Around.mark_units, units_caller]); (try dsimp only [ktrTop]); (first | (with_reducible exact room_le (by assumption) (by decide)) | (with_reducible exact room_le2 (by assumption) (by decide)) | (with_reducible exact room_le3 (by assumption) (by decide)) | (with_reducible exact room_le4 (by assumption) (by decide)))))
  k_with "k_room" => (k_extra "mine room")
  k_with "k_units" => (k_extra "mine room")
  trivial
section
theorem octs_take {ws ws2 : List Value} {os : List Int} {k : Nat} (hw : Octs ws os) (hi : IntsAre ws2 (os.take k)) : Octs ws2 (os.take k) := ⟨hi, fun n hn => hw.2 n (List.mem_of_mem_take hn)⟩
theorem len_take64 {os : List Int} {k : Nat} (h : os.length ≤ 64) : (os.take k).length ≤ 64 := Nat.le_trans (List.length_take_le' _ _) h
theorem pieceC {w : World} {mean : ExcName → Option Value} {mg mb : Str → Option Value} {p : Program} {loose : List Str} {c1 c2 c3 c4 c5 c6 c7 c8 : Addr} {lo : Addr} {ws : List Value} {co : Nat} {os : List Int} {cut : Int} {tc : Tok} {m : Str → Option Value} {rest : List (Addr × Obj)}
   (dp un : Nat) (gd : Option (List Code)) (a : Addr) (A₀ : Around) (base h₀ : Heap) (L : Addr) (s : Shared) (Q : Flow → Shared → Prop) (E : Value → Shared → Prop) (B : Below A₀ base [] h₀) (X : (hd.heap_1 w.params).In h₀) (T : Top p loose mean mg mb h₀) (XB : (hd.heap_1 w.params).In base) (TB : Top p loose mean mg mb base) (hd : dp + 50 < recursionLimit) (hu : un + 900 < cLine) (hw : Octs ws os) (hos : os.length ≤ 64) (hc0 : 0 ≤ cut) (hc4 : cut < 4)
   (F : Fr h₀ L s.heap (fun z => if z = Str.ofString "octets" then some (.ref lo) else if z = Str.ofString "cut" then some (.int cut tc) else m z))
   (N : News h₀ L s.heap ((lo, listOf ws.toArray co) :: rest))
   (hret : ∀ (h' : Heap) (tk' : Nat) (lo' : Addr) (m' : Str → Option Value) (ws' : List Value) (co' : Nat) (os' : List Int),
     Fr h₀ L h' (fun z => if z = Str.ofString "octets" then some (.ref lo') else m' z) →
     News h₀ L h' ((lo', listOf ws'.toArray co') :: rest) → Octs ws' os' → os'.length ≤ 64 → Q .next { s with heap := h', toks := tk' }) :
   wpAny (model PySem.Challenge.rw_ke0006_01.row.prog w) (ktrTop dp un gd (Str.ofString "law") lawScope L a (.ref 408) [(Str.ofString "without", c8), (Str.ofString "v", c7), (Str.ofString "table", c6), (Str.ofString "pos", c5), (Str.ofString "off", c4), (Str.ofString "kind", c3), (Str.ofString "flags", c2), (Str.ofString "data", c1)] []) (execs lawC (envX (Str.ofString "law") lawScope L a (.ref 408) [(Str.ofString "without", c8), (Str.ofString "v", c7), (Str.ofString "table", c6), (Str.ofString "pos", c5), (Str.ofString "off", c4), (Str.ofString "kind", c3), (Str.ofString "flags", c2), (Str.ofString "data", c1)])) Q E s := by
  revert X; k_fill; intro X
  have hi := hw.1
  show wpAny _ _ (execs [_] _) _ _ _
  k_steps
  all_goals (first
    | exact hret _ _ _ _ _ _ _ (by assumption) (cb_drop (by assumption) (by kcj_in)) (octs_take hw (by assumption)) (len_take64 hos)
    | exact hret _ _ _ _ _ _ _ (by assumption) (by assumption) hw hos)
end
theorem kw74 : True := by
  w_top off
  k_with "m callWith ref" => (k_here; (k_dflt first | (refine' callWith_K ?zzk1 ?zzk2 ?_; (case zzk1 => with_reducible assumption); (case zzk2 => k_is); k_whole) | (refine' callWith_K0 ?zzk1 ?zzk2 ?_; (case zzk1 => k_in); (case zzk2 => k_is); k_whole)))
  k_with "m eval Lambda" => (k_here; k_dflt (refine' kla_eval ?zzd0 ?_; (case zzd0 => exact rfl)); k_dflt (refine' kla_nest ?zzF ?zzN ?zzT ?zzC ?zzcd ?zzU ?zzt ?zzn ?zzcl ?_; (case zzF => k_asm); (case zzN => k_asm); (case zzT => k_asm); (case zzcd => exact rfl); (case zzC => assumption); (case zzU => exact .head (by assumption)); (case zzt => assumption); (case zzn => assumption); (case zzcl => exact rfl); k_whole); intro f' c' oc' vs' t' ct' h' tk' F' N' d1' d2' l1 l2; dsimp only at N')
  k_with "m call ref" => (k_here; (with_reducible show wpAny _ _ (call (Value.ref 388) _) _ _ _); k_dflt (refine' (told_ok ?zzhfn ?zzhl) _ _ _ _ _ _ _ _ _ _ _ _ _ _ _ _ ?zzkB ?zzkF ?zzkX ?zzkN ?zzkT ?zzkXB ?zzkTB ?zzkf ?zzkd ?zzku ?_); (case zzkB => k_asm); (case zzkF => k_asm); (case zzkX => k_asm); (case zzkN => k_asm); (case zzkT => k_asm); (case zzhfn => exact List.mem_cons_self); (case zzhl => k_extra "mine lam"); (case zzkf => first | k_dflt exact rfl | assumption); (case zzkd => k_extra "mine room"); (case zzku => k_extra "mine room"); (case zzkXB => k_asm); (case zzkTB => k_asm); (intro t' h' tk' F' N'))
  trivial
section
theorem mem3 {α : Type} {a x y z : α} {l : List α} (h : a ∈ l) : a ∈ x :: y :: z :: l := .tail _ (.tail _ (.tail _ h))
theorem kw75 : True := by
  w_top off
  k_with "mine rc" => ((case zzkB => k_asm); (case zzkF => k_asm); (case zzkX => k_asm); (case zzkN => k_asm); (case zzkT => k_asm); (case zzkf => first | k_dflt exact rfl | assumption); (case zzkd => k_extra "mine room"); (case zzku => k_extra "mine room"))
  k_with "m call ref" => (k_here; (with_reducible show wpAny _ _ (call (Value.ref 353) _) _ _ _); k_dflt (refine' (lrow_ok ?zzh0 ?zzh1 ?zzh2 ?zzh3 ?zzhb ?zzhi ?zzm1).use ?zzkB ?zzkF ?zzkX ?zzkN ?zzkT ?zzkf ?zzkd ?zzku ?_); (k_extra "mine rc"); (case zzh0 => first | assumption | omega); (case zzh1 => first | assumption | omega); (case zzh2 => first | assumption | omega); (case zzh3 => first | assumption | omega); (case zzhb => assumption); (case zzhi => assumption); (case zzm1 => k_extra "mine mem"); (intro t' h' tk' F' N'))
  k_with "m call ref" => (k_here; (with_reducible show wpAny _ _ (call (Value.ref 346) _) _ _ _); k_dflt (refine' (held_ok ?zzh0 ?zzh1 ?zzhk0 ?zzhk1 ?zzhb ?zzhi ?zzm1).use ?zzkB ?zzkF ?zzkX ?zzkN ?zzkT ?zzkf ?zzkd ?zzku ?_); (k_extra "mine rc"); (case zzh0 => first | assumption | omega); (case zzh1 => first | assumption | omega); (case zzhk0 => assumption); (case zzhk1 => assumption); (case zzhb => assumption); (case zzhi => assumption); (case zzm1 => k_extra "mine mem"); (intro t' h' tk' F' N'))
  k_with "m call ref" => (k_here; (with_reducible show wpAny _ _ (call (Value.ref 367) _) _ _ _); k_dflt (refine' (lslot_ok ?zzh0 ?zzh1 ?zzh2 ?zzh3 ?zzhk0 ?zzhk1 ?zzhb ?zzhi ?zzhA ?zzm1).use ?zzkB ?zzkF ?zzkX ?zzkN ?zzkT ?zzkf ?zzkd ?zzku ?_); (k_extra "mine rc"); (case zzh0 => first | assumption | omega); (case zzh1 => first | assumption | omega); (case zzh2 => first | assumption | omega); (case zzh3 => first | assumption | omega); (case zzhk0 => assumption); (case zzhk1 => assumption); (case zzhA => assumption); (case zzhb => assumption); (case zzhi => assumption); (case zzm1 => k_extra "mine mem"); (intro t' h' tk' F' N'))
  k_with "mine lam" => (k_dflt exact lam0 (List.mem_cons_of_mem _ List.mem_cons_self) (by assumption) (by assumption) hb (mem3 m1) (mem3 m2) (mem3 m3) h0 h1 h2 h3 h4 h5 (mem3 n7) d7 (mem3 n6) d6 List.mem_cons_self)
  trivial
theorem row0 {w : World} {mean : ExcName → Option Value} {mg mb : Str → Option Value} {p : Program} {loose : List Str} {c1 c2 c3 c4 c5 c6 c7 c8 : Addr} {o1 o2 o3 o4 o5 o6 o7 o8 : Obj} {x dx D lo : Addr} {b : Array UInt8} {ws : List Value} {co : Nat} {pos v off kind : Int} {tp tv to tki td ti ui : Tok} {dA : Ans} {ps : Array Value} {led : List (Addr × Obj)} {m : Str → Option Value}
   (dp un : Nat) (gd : Option (List Code)) (a : Addr) (A₀ : Around) (base h₀ : Heap) (L : Addr) (s : Shared) (Q : Value → Shared → Prop) (E : Value → Shared → Prop) (B : Below A₀ base [] h₀) (X : (hd.heap_1 w.params).In h₀) (T : Top p loose mean mg mb h₀) (XB : (hd.heap_1 w.params).In base) (TB : Top p loose mean mg mb base) (hd : dp + 50 < recursionLimit) (hu : un + 900 < cLine) (hC : CodeHd h₀ 408 404) (hoff : ∀ q ∈ led, q.1 ≠ 404) (hps : TriplesOk ps.toList) (hno : codeAmong (lamPos 0) ps.toList = none)
   (h0 : 0 ≤ pos) (h1 : pos < 48) (h2 : 0 ≤ v) (h3 : v < 24) (h4 : 0 ≤ off) (h5 : off < 24) (hk1 : 0 ≤ kind) (hk2 : kind < 9) (hA : DefOk dA kind off) (hi : IntsAre ws (ocs b)) (hb : b.size ≤ 64)
   (m1 : (x, tabObj' dx D pos tp) ∈ led) (m2 : (dx, dictOf [] 0) ∈ led) (m3 : (D, baObj b) ∈ led) (m4 : (lo, listOf ws.toArray co) ∈ led)
   (n1 : (c1, o1) ∈ led) (d1 : o1.data = .cell (some (.ref D))) (n2 : (c2, o2) ∈ led) (d2 : o2.data = .cell (some (.ref (clsK kind.toNat)))) (n3 : (c3, o3) ∈ led) (d3 : o3.data = .cell (some (.int kind tki))) (n4 : (c4, o4) ∈ led) (d4 : o4.data = .cell (some (.int off to))) (n5 : (c5, o5) ∈ led) (d5 : o5.data = .cell (some (.int pos tp))) (n6 : (c6, o6) ∈ led) (d6 : o6.data = .cell (some (.ref x))) (n7 : (c7, o7) ∈ led) (d7 : o7.data = .cell (some (.int v tv))) (n8 : (c8, o8) ∈ led) (d8 : o8.data = .cell (some (dA.val td)))
   (F : Fr h₀ L s.heap (fun z => if z = Str.ofString "many" then some ((vlen b (pos + off)).val ui) else if z = Str.ofString "first" then some ((vec b (pos + off)).val ti) else if z = Str.ofString "octets" then some (.ref lo) else m z))
   (N : News h₀ L s.heap ((404, tabObj ps) :: led))
   (hret : ∀ (h' : Heap) (tk' : Nat) (r c' : Addr) (t u : Tok), Fr h₀ L h' (fun z => if z = Str.ofString "many" then some ((vlen b (pos + off)).val ui) else if z = Str.ofString "first" then some ((vec b (pos + off)).val ti) else if z = Str.ofString "octets" then some (.ref lo) else m z) →
     News h₀ L h' ((404, tabObj (ps ++ #[rawInt (lamPos 0).line, rawInt (lamPos 0).col, .ref c'])) :: (r, vecTup (rowB b pos v) (rowB b pos v) t u) :: led) → @Ne Nat r 404 → Q (.ref r) { s with heap := h', toks := tk' }) :
   wpAny (model PySem.Challenge.rw_ke0006_01.row.prog w) (ktrTop dp un gd (Str.ofString "law") lawScope L a (.ref 408) [(Str.ofString "without", c8), (Str.ofString "v", c7), (Str.ofString "table", c6), (Str.ofString "pos", c5), (Str.ofString "off", c4), (Str.ofString "kind", c3), (Str.ofString "flags", c2), (Str.ofString "data", c1)] []) (eval (rowE 0) (envX (Str.ofString "law") lawScope L a (.ref 408) [(Str.ofString "without", c8), (Str.ofString "v", c7), (Str.ofString "table", c6), (Str.ofString "pos", c5), (Str.ofString "off", c4), (Str.ofString "kind", c3), (Str.ofString "flags", c2), (Str.ofString "data", c1)])) Q E s := by
  revert X; k_fill; intro X
  show wpAny _ _ (eval (.Tuple _ _ _) _) _ _ _
  k_steps
  all_goals (first | exact hret _ _ _ _ _ _ (by assumption) (cb_drop (by assumption) (by kcj_in)) (neN (by omega)))
theorem kw76 : True := by
  w_top off
  k_with "mine lam" => (k_dflt exact lam1c (List.mem_cons_of_mem _ List.mem_cons_self) (by assumption) (by assumption) hb (mem3 m1) (mem3 m2) (mem3 m3) h0 h1 h2 h3 h4 h5 (mem3 n6) d6 (mem3 n5) d5 (mem3 n4) d4 (mem3 n2) d2 hk1 hk2 List.mem_cons_self)
  trivial
theorem row1 {w : World} {mean : ExcName → Option Value} {mg mb : Str → Option Value} {p : Program} {loose : List Str} {c1 c2 c3 c4 c5 c6 c7 c8 : Addr} {o1 o2 o3 o4 o5 o6 o7 o8 : Obj} {x dx D lo : Addr} {b : Array UInt8} {ws : List Value} {co : Nat} {pos v off kind : Int} {tp tv to tki td ti ui : Tok} {dA : Ans} {ps : Array Value} {led : List (Addr × Obj)} {m : Str → Option Value}
   (dp un : Nat) (gd : Option (List Code)) (a : Addr) (A₀ : Around) (base h₀ : Heap) (L : Addr) (s : Shared) (Q : Value → Shared → Prop) (E : Value → Shared → Prop) (B : Below A₀ base [] h₀) (X : (hd.heap_1 w.params).In h₀) (T : Top p loose mean mg mb h₀) (XB : (hd.heap_1 w.params).In base) (TB : Top p loose mean mg mb base) (hd : dp + 50 < recursionLimit) (hu : un + 900 < cLine) (hC : CodeHd h₀ 408 404) (hoff : ∀ q ∈ led, q.1 ≠ 404) (hps : TriplesOk ps.toList) (hno : codeAmong (lamPos 1) ps.toList = none)
   (h0 : 0 ≤ pos) (h1 : pos < 48) (h2 : 0 ≤ v) (h3 : v < 24) (h4 : 0 ≤ off) (h5 : off < 24) (hk1 : 0 ≤ kind) (hk2 : kind < 9) (hA : DefOk dA kind off) (hi : IntsAre ws (ocs b)) (hb : b.size ≤ 64)
   (m1 : (x, tabObj' dx D pos tp) ∈ led) (m2 : (dx, dictOf [] 0) ∈ led) (m3 : (D, baObj b) ∈ led) (m4 : (lo, listOf ws.toArray co) ∈ led)
   (n1 : (c1, o1) ∈ led) (d1 : o1.data = .cell (some (.ref D))) (n2 : (c2, o2) ∈ led) (d2 : o2.data = .cell (some (.ref (clsK kind.toNat)))) (n3 : (c3, o3) ∈ led) (d3 : o3.data = .cell (some (.int kind tki))) (n4 : (c4, o4) ∈ led) (d4 : o4.data = .cell (some (.int off to))) (n5 : (c5, o5) ∈ led) (d5 : o5.data = .cell (some (.int pos tp))) (n6 : (c6, o6) ∈ led) (d6 : o6.data = .cell (some (.ref x))) (n7 : (c7, o7) ∈ led) (d7 : o7.data = .cell (some (.int v tv))) (n8 : (c8, o8) ∈ led) (d8 : o8.data = .cell (some (dA.val td)))
   (F : Fr h₀ L s.heap (fun z => if z = Str.ofString "many" then some ((vlen b (pos + off)).val ui) else if z = Str.ofString "first" then some ((vec b (pos + off)).val ti) else if z = Str.ofString "octets" then some (.ref lo) else m z))
   (N : News h₀ L s.heap ((404, tabObj ps) :: led))
   (hret : ∀ (h' : Heap) (tk' : Nat) (r c' : Addr) (t u : Tok), Fr h₀ L h' (fun z => if z = Str.ofString "many" then some ((vlen b (pos + off)).val ui) else if z = Str.ofString "first" then some ((vec b (pos + off)).val ti) else if z = Str.ofString "octets" then some (.ref lo) else m z) →
     News h₀ L h' ((404, tabObj (ps ++ #[rawInt (lamPos 1).line, rawInt (lamPos 1).col, .ref c'])) :: (r, vecTup (reads kind.toNat b (pos + off)) (reads kind.toNat b (pos + off)) t u) :: led) → @Ne Nat r 404 → Q (.ref r) { s with heap := h', toks := tk' }) :
   wpAny (model PySem.Challenge.rw_ke0006_01.row.prog w) (ktrTop dp un gd (Str.ofString "law") lawScope L a (.ref 408) [(Str.ofString "without", c8), (Str.ofString "v", c7), (Str.ofString "table", c6), (Str.ofString "pos", c5), (Str.ofString "off", c4), (Str.ofString "kind", c3), (Str.ofString "flags", c2), (Str.ofString "data", c1)] []) (eval (rowE 1) (envX (Str.ofString "law") lawScope L a (.ref 408) [(Str.ofString "without", c8), (Str.ofString "v", c7), (Str.ofString "table", c6), (Str.ofString "pos", c5), (Str.ofString "off", c4), (Str.ofString "kind", c3), (Str.ofString "flags", c2), (Str.ofString "data", c1)])) Q E s := by
  revert X; k_fill; intro X
  show wpAny _ _ (eval (.Tuple _ _ _) _) _ _ _
  k_steps
  all_goals (first | exact hret _ _ _ _ _ _ (by assumption) (cb_drop (by assumption) (by kcj_in)) (neN (by omega)))
theorem kw77 : True := by
  w_top off
  k_with "mine lam" => (k_dflt exact lam2c (List.mem_cons_of_mem _ List.mem_cons_self) (by assumption) (by assumption) hb (mem3 m1) (mem3 m2) (mem3 m3) h0 h1 h2 h3 h4 h5 (mem3 n8) d8 (mem3 n7) d7 (mem3 n6) d6 (mem3 n2) d2 hk1 hk2 hA List.mem_cons_self)
  trivial
theorem row2 {w : World} {mean : ExcName → Option Value} {mg mb : Str → Option Value} {p : Program} {loose : List Str} {c1 c2 c3 c4 c5 c6 c7 c8 : Addr} {o1 o2 o3 o4 o5 o6 o7 o8 : Obj} {x dx D lo : Addr} {b : Array UInt8} {ws : List Value} {co : Nat} {pos v off kind : Int} {tp tv to tki td ti ui : Tok} {dA : Ans} {ps : Array Value} {led : List (Addr × Obj)} {m : Str → Option Value}
   (dp un : Nat) (gd : Option (List Code)) (a : Addr) (A₀ : Around) (base h₀ : Heap) (L : Addr) (s : Shared) (Q : Value → Shared → Prop) (E : Value → Shared → Prop) (B : Below A₀ base [] h₀) (X : (hd.heap_1 w.params).In h₀) (T : Top p loose mean mg mb h₀) (XB : (hd.heap_1 w.params).In base) (TB : Top p loose mean mg mb base) (hd : dp + 50 < recursionLimit) (hu : un + 900 < cLine) (hC : CodeHd h₀ 408 404) (hoff : ∀ q ∈ led, q.1 ≠ 404) (hps : TriplesOk ps.toList) (hno : codeAmong (lamPos 2) ps.toList = none)
   (h0 : 0 ≤ pos) (h1 : pos < 48) (h2 : 0 ≤ v) (h3 : v < 24) (h4 : 0 ≤ off) (h5 : off < 24) (hk1 : 0 ≤ kind) (hk2 : kind < 9) (hA : DefOk dA kind off) (hi : IntsAre ws (ocs b)) (hb : b.size ≤ 64)
   (m1 : (x, tabObj' dx D pos tp) ∈ led) (m2 : (dx, dictOf [] 0) ∈ led) (m3 : (D, baObj b) ∈ led) (m4 : (lo, listOf ws.toArray co) ∈ led)
   (n1 : (c1, o1) ∈ led) (d1 : o1.data = .cell (some (.ref D))) (n2 : (c2, o2) ∈ led) (d2 : o2.data = .cell (some (.ref (clsK kind.toNat)))) (n3 : (c3, o3) ∈ led) (d3 : o3.data = .cell (some (.int kind tki))) (n4 : (c4, o4) ∈ led) (d4 : o4.data = .cell (some (.int off to))) (n5 : (c5, o5) ∈ led) (d5 : o5.data = .cell (some (.int pos tp))) (n6 : (c6, o6) ∈ led) (d6 : o6.data = .cell (some (.ref x))) (n7 : (c7, o7) ∈ led) (d7 : o7.data = .cell (some (.int v tv))) (n8 : (c8, o8) ∈ led) (d8 : o8.data = .cell (some (dA.val td)))
   (F : Fr h₀ L s.heap (fun z => if z = Str.ofString "many" then some ((vlen b (pos + off)).val ui) else if z = Str.ofString "first" then some ((vec b (pos + off)).val ti) else if z = Str.ofString "octets" then some (.ref lo) else m z))
   (N : News h₀ L s.heap ((404, tabObj ps) :: led))
   (hret : ∀ (h' : Heap) (tk' : Nat) (r c' : Addr) (t u : Tok), Fr h₀ L h' (fun z => if z = Str.ofString "many" then some ((vlen b (pos + off)).val ui) else if z = Str.ofString "first" then some ((vec b (pos + off)).val ti) else if z = Str.ofString "octets" then some (.ref lo) else m z) →
     News h₀ L h' ((404, tabObj (ps ++ #[rawInt (lamPos 2).line, rawInt (lamPos 2).col, .ref c'])) :: (r, vecTup (slotB b pos v dA kind.toNat) (slotB b pos v dA kind.toNat) t u) :: led) → @Ne Nat r 404 → Q (.ref r) { s with heap := h', toks := tk' }) :
   wpAny (model PySem.Challenge.rw_ke0006_01.row.prog w) (ktrTop dp un gd (Str.ofString "law") lawScope L a (.ref 408) [(Str.ofString "without", c8), (Str.ofString "v", c7), (Str.ofString "table", c6), (Str.ofString "pos", c5), (Str.ofString "off", c4), (Str.ofString "kind", c3), (Str.ofString "flags", c2), (Str.ofString "data", c1)] []) (eval (rowE 2) (envX (Str.ofString "law") lawScope L a (.ref 408) [(Str.ofString "without", c8), (Str.ofString "v", c7), (Str.ofString "table", c6), (Str.ofString "pos", c5), (Str.ofString "off", c4), (Str.ofString "kind", c3), (Str.ofString "flags", c2), (Str.ofString "data", c1)])) Q E s := by
  revert X; k_fill; intro X
  show wpAny _ _ (eval (.Tuple _ _ _) _) _ _ _
  k_steps
  all_goals (first | exact hret _ _ _ _ _ _ (by assumption) (cb_drop (by assumption) (by kcj_in)) (neN (by omega)))
end
section

theorem kw78 : True := by
  w_top off
  k_with "m call ref" => (k_here; (with_reducible show wpAny _ _ (call (Value.ref 353) _) _ _ _); k_dflt (refine' (lrow_ok ?zzh0 ?zzh1 ?zzh2 ?zzh3 ?zzhb ?zzhi ?zzm1).use ?zzkB ?zzkF ?zzkX ?zzkN ?zzkT ?zzkf ?zzkd ?zzku ?_); (k_extra "mine rc"); (case zzh0 => first | assumption | omega); (case zzh1 => first | assumption | omega); (case zzh2 => first | assumption | omega); (case zzh3 => first | assumption | omega); (case zzhb => assumption); (case zzhi => assumption); (case zzm1 => k_extra "mine mem"); (intro t' h' tk' F' N'))
  k_with "mine lam" => (k_dflt exact lam3c (List.mem_cons_of_mem _ List.mem_cons_self) (by assumption) (by assumption) hb (mem3 m1) (mem3 m2) (mem3 m3) h0 h1 h2 h3 h4 h5 (mem3 n7) d7 (mem3 n6) d6 (mem3 n3) d3 (mem3 n2) d2 hk1 hk2 List.mem_cons_self)
  trivial
theorem row3 {w : World} {mean : ExcName → Option Value} {mg mb : Str → Option Value} {p : Program} {loose : List Str} {c1 c2 c3 c4 c5 c6 c7 c8 : Addr} {o1 o2 o3 o4 o5 o6 o7 o8 : Obj} {x dx D lo : Addr} {b : Array UInt8} {ws : List Value} {co : Nat} {pos v off kind : Int} {tp tv to tki td ti ui : Tok} {dA : Ans} {ps : Array Value} {led : List (Addr × Obj)} {m : Str → Option Value}
   (dp un : Nat) (gd : Option (List Code)) (a : Addr) (A₀ : Around) (base h₀ : Heap) (L : Addr) (s : Shared) (Q : Value → Shared → Prop) (E : Value → Shared → Prop) (B : Below A₀ base [] h₀) (X : (hd.heap_1 w.params).In h₀) (T : Top p loose mean mg mb h₀) (XB : (hd.heap_1 w.params).In base) (TB : Top p loose mean mg mb base) (hd : dp + 50 < recursionLimit) (hu : un + 900 < cLine) (hC : CodeHd h₀ 408 404) (hoff : ∀ q ∈ led, q.1 ≠ 404) (hps : TriplesOk ps.toList) (hno : codeAmong (lamPos 3) ps.toList = none)
   (h0 : 0 ≤ pos) (h1 : pos < 48) (h2 : 0 ≤ v) (h3 : v < 24) (h4 : 0 ≤ off) (h5 : off < 24) (hk1 : 0 ≤ kind) (hk2 : kind < 9) (hA : DefOk dA kind off) (hi : IntsAre ws (ocs b)) (hb : b.size ≤ 64)
   (m1 : (x, tabObj' dx D pos tp) ∈ led) (m2 : (dx, dictOf [] 0) ∈ led) (m3 : (D, baObj b) ∈ led) (m4 : (lo, listOf ws.toArray co) ∈ led)
   (n1 : (c1, o1) ∈ led) (d1 : o1.data = .cell (some (.ref D))) (n2 : (c2, o2) ∈ led) (d2 : o2.data = .cell (some (.ref (clsK kind.toNat)))) (n3 : (c3, o3) ∈ led) (d3 : o3.data = .cell (some (.int kind tki))) (n4 : (c4, o4) ∈ led) (d4 : o4.data = .cell (some (.int off to))) (n5 : (c5, o5) ∈ led) (d5 : o5.data = .cell (some (.int pos tp))) (n6 : (c6, o6) ∈ led) (d6 : o6.data = .cell (some (.ref x))) (n7 : (c7, o7) ∈ led) (d7 : o7.data = .cell (some (.int v tv))) (n8 : (c8, o8) ∈ led) (d8 : o8.data = .cell (some (dA.val td)))
   (F : Fr h₀ L s.heap (fun z => if z = Str.ofString "many" then some ((vlen b (pos + off)).val ui) else if z = Str.ofString "first" then some ((vec b (pos + off)).val ti) else if z = Str.ofString "octets" then some (.ref lo) else m z))
   (N : News h₀ L s.heap ((404, tabObj ps) :: led))
   (hret : ∀ (h' : Heap) (tk' : Nat) (r c' : Addr) (t u : Tok), Fr h₀ L h' (fun z => if z = Str.ofString "many" then some ((vlen b (pos + off)).val ui) else if z = Str.ofString "first" then some ((vec b (pos + off)).val ti) else if z = Str.ofString "octets" then some (.ref lo) else m z) →
     News h₀ L h' ((404, tabObj (ps ++ #[rawInt (lamPos 3).line, rawInt (lamPos 3).col, .ref c'])) :: (r, vecTup (.typ) (.typ) t u) :: led) → @Ne Nat r 404 → Q (.ref r) { s with heap := h', toks := tk' }) :
   wpAny (model PySem.Challenge.rw_ke0006_01.row.prog w) (ktrTop dp un gd (Str.ofString "law") lawScope L a (.ref 408) [(Str.ofString "without", c8), (Str.ofString "v", c7), (Str.ofString "table", c6), (Str.ofString "pos", c5), (Str.ofString "off", c4), (Str.ofString "kind", c3), (Str.ofString "flags", c2), (Str.ofString "data", c1)] []) (eval (rowE 3) (envX (Str.ofString "law") lawScope L a (.ref 408) [(Str.ofString "without", c8), (Str.ofString "v", c7), (Str.ofString "table", c6), (Str.ofString "pos", c5), (Str.ofString "off", c4), (Str.ofString "kind", c3), (Str.ofString "flags", c2), (Str.ofString "data", c1)])) Q E s := by
  revert X; k_fill; intro X
  show wpAny _ _ (eval (.Tuple _ _ _) _) _ _ _
  k_steps
  all_goals (first | exact hret _ _ _ _ _ _ (by assumption) (cb_drop (by assumption) (by kcj_in)) (neN (by omega)))
theorem kw79 : True := by
  w_top off
  k_with "mine lam" => (k_dflt exact lam4c (List.mem_cons_of_mem _ List.mem_cons_self) (by assumption) (by assumption) hb (mem3 m1) (mem3 m2) (mem3 m3) h0 h1 h2 h3 h4 h5 (mem3 n7) d7 (mem3 n6) d6 (mem3 n3) d3 (mem3 n2) d2 hk1 hk2 List.mem_cons_self)
  trivial
theorem row4 {w : World} {mean : ExcName → Option Value} {mg mb : Str → Option Value} {p : Program} {loose : List Str} {c1 c2 c3 c4 c5 c6 c7 c8 : Addr} {o1 o2 o3 o4 o5 o6 o7 o8 : Obj} {x dx D lo : Addr} {b : Array UInt8} {ws : List Value} {co : Nat} {pos v off kind : Int} {tp tv to tki td ti ui : Tok} {dA : Ans} {ps : Array Value} {led : List (Addr × Obj)} {m : Str → Option Value}
   (dp un : Nat) (gd : Option (List Code)) (a : Addr) (A₀ : Around) (base h₀ : Heap) (L : Addr) (s : Shared) (Q : Value → Shared → Prop) (E : Value → Shared → Prop) (B : Below A₀ base [] h₀) (X : (hd.heap_1 w.params).In h₀) (T : Top p loose mean mg mb h₀) (XB : (hd.heap_1 w.params).In base) (TB : Top p loose mean mg mb base) (hd : dp + 50 < recursionLimit) (hu : un + 900 < cLine) (hC : CodeHd h₀ 408 404) (hoff : ∀ q ∈ led, q.1 ≠ 404) (hps : TriplesOk ps.toList) (hno : codeAmong (lamPos 4) ps.toList = none)
   (h0 : 0 ≤ pos) (h1 : pos < 48) (h2 : 0 ≤ v) (h3 : v < 24) (h4 : 0 ≤ off) (h5 : off < 24) (hk1 : 0 ≤ kind) (hk2 : kind < 9) (hA : DefOk dA kind off) (hi : IntsAre ws (ocs b)) (hb : b.size ≤ 64)
   (m1 : (x, tabObj' dx D pos tp) ∈ led) (m2 : (dx, dictOf [] 0) ∈ led) (m3 : (D, baObj b) ∈ led) (m4 : (lo, listOf ws.toArray co) ∈ led)
   (n1 : (c1, o1) ∈ led) (d1 : o1.data = .cell (some (.ref D))) (n2 : (c2, o2) ∈ led) (d2 : o2.data = .cell (some (.ref (clsK kind.toNat)))) (n3 : (c3, o3) ∈ led) (d3 : o3.data = .cell (some (.int kind tki))) (n4 : (c4, o4) ∈ led) (d4 : o4.data = .cell (some (.int off to))) (n5 : (c5, o5) ∈ led) (d5 : o5.data = .cell (some (.int pos tp))) (n6 : (c6, o6) ∈ led) (d6 : o6.data = .cell (some (.ref x))) (n7 : (c7, o7) ∈ led) (d7 : o7.data = .cell (some (.int v tv))) (n8 : (c8, o8) ∈ led) (d8 : o8.data = .cell (some (dA.val td)))
   (F : Fr h₀ L s.heap (fun z => if z = Str.ofString "many" then some ((vlen b (pos + off)).val ui) else if z = Str.ofString "first" then some ((vec b (pos + off)).val ti) else if z = Str.ofString "octets" then some (.ref lo) else m z))
   (N : News h₀ L s.heap ((404, tabObj ps) :: led))
   (hret : ∀ (h' : Heap) (tk' : Nat) (r c' : Addr) (t u : Tok), Fr h₀ L h' (fun z => if z = Str.ofString "many" then some ((vlen b (pos + off)).val ui) else if z = Str.ofString "first" then some ((vec b (pos + off)).val ti) else if z = Str.ofString "octets" then some (.ref lo) else m z) →
     News h₀ L h' ((404, tabObj (ps ++ #[rawInt (lamPos 4).line, rawInt (lamPos 4).col, .ref c'])) :: (r, vecTup (.typ) (.typ) t u) :: led) → @Ne Nat r 404 → Q (.ref r) { s with heap := h', toks := tk' }) :
   wpAny (model PySem.Challenge.rw_ke0006_01.row.prog w) (ktrTop dp un gd (Str.ofString "law") lawScope L a (.ref 408) [(Str.ofString "without", c8), (Str.ofString "v", c7), (Str.ofString "table", c6), (Str.ofString "pos", c5), (Str.ofString "off", c4), (Str.ofString "kind", c3), (Str.ofString "flags", c2), (Str.ofString "data", c1)] []) (eval (rowE 4) (envX (Str.ofString "law") lawScope L a (.ref 408) [(Str.ofString "without", c8), (Str.ofString "v", c7), (Str.ofString "table", c6), (Str.ofString "pos", c5), (Str.ofString "off", c4), (Str.ofString "kind", c3), (Str.ofString "flags", c2), (Str.ofString "data", c1)])) Q E s := by
  revert X; k_fill; intro X
  show wpAny _ _ (eval (.Tuple _ _ _) _) _ _ _
  k_steps
  all_goals (first | exact hret _ _ _ _ _ _ (by assumption) (cb_drop (by assumption) (by kcj_in)) (neN (by omega)))
theorem kw80 : True := by
  w_top off
  k_with "mine lam" => (k_dflt exact lam5 (List.mem_cons_of_mem _ List.mem_cons_self) (by assumption) (by assumption) hb (mem3 m1) (mem3 m2) (mem3 m3) h0 h1 h2 h3 h4 h5 (mem3 n7) d7 (mem3 n6) d6 List.mem_cons_self)
  trivial
theorem row5 {w : World} {mean : ExcName → Option Value} {mg mb : Str → Option Value} {p : Program} {loose : List Str} {c1 c2 c3 c4 c5 c6 c7 c8 : Addr} {o1 o2 o3 o4 o5 o6 o7 o8 : Obj} {x dx D lo : Addr} {b : Array UInt8} {ws : List Value} {co : Nat} {pos v off kind : Int} {tp tv to tki td ti ui : Tok} {dA : Ans} {ps : Array Value} {led : List (Addr × Obj)} {m : Str → Option Value}
   (dp un : Nat) (gd : Option (List Code)) (a : Addr) (A₀ : Around) (base h₀ : Heap) (L : Addr) (s : Shared) (Q : Value → Shared → Prop) (E : Value → Shared → Prop) (B : Below A₀ base [] h₀) (X : (hd.heap_1 w.params).In h₀) (T : Top p loose mean mg mb h₀) (XB : (hd.heap_1 w.params).In base) (TB : Top p loose mean mg mb base) (hd : dp + 50 < recursionLimit) (hu : un + 900 < cLine) (hC : CodeHd h₀ 408 404) (hoff : ∀ q ∈ led, q.1 ≠ 404) (hps : TriplesOk ps.toList) (hno : codeAmong (lamPos 5) ps.toList = none)
   (h0 : 0 ≤ pos) (h1 : pos < 48) (h2 : 0 ≤ v) (h3 : v < 24) (h4 : 0 ≤ off) (h5 : off < 24) (hk1 : 0 ≤ kind) (hk2 : kind < 9) (hA : DefOk dA kind off) (hi : IntsAre ws (ocs b)) (hb : b.size ≤ 64)
   (m1 : (x, tabObj' dx D pos tp) ∈ led) (m2 : (dx, dictOf [] 0) ∈ led) (m3 : (D, baObj b) ∈ led) (m4 : (lo, listOf ws.toArray co) ∈ led)
   (n1 : (c1, o1) ∈ led) (d1 : o1.data = .cell (some (.ref D))) (n2 : (c2, o2) ∈ led) (d2 : o2.data = .cell (some (.ref (clsK kind.toNat)))) (n3 : (c3, o3) ∈ led) (d3 : o3.data = .cell (some (.int kind tki))) (n4 : (c4, o4) ∈ led) (d4 : o4.data = .cell (some (.int off to))) (n5 : (c5, o5) ∈ led) (d5 : o5.data = .cell (some (.int pos tp))) (n6 : (c6, o6) ∈ led) (d6 : o6.data = .cell (some (.ref x))) (n7 : (c7, o7) ∈ led) (d7 : o7.data = .cell (some (.int v tv))) (n8 : (c8, o8) ∈ led) (d8 : o8.data = .cell (some (dA.val td)))
   (F : Fr h₀ L s.heap (fun z => if z = Str.ofString "many" then some ((vlen b (pos + off)).val ui) else if z = Str.ofString "first" then some ((vec b (pos + off)).val ti) else if z = Str.ofString "octets" then some (.ref lo) else m z))
   (N : News h₀ L s.heap ((404, tabObj ps) :: led))
   (hret : ∀ (h' : Heap) (tk' : Nat) (r c' : Addr) (t u : Tok), Fr h₀ L h' (fun z => if z = Str.ofString "many" then some ((vlen b (pos + off)).val ui) else if z = Str.ofString "first" then some ((vec b (pos + off)).val ti) else if z = Str.ofString "octets" then some (.ref lo) else m z) →
     News h₀ L h' ((404, tabObj (ps ++ #[rawInt (lamPos 5).line, rawInt (lamPos 5).col, .ref c'])) :: (r, vecTup (vslot b pos v 65535) (rowB b pos v) t u) :: led) → @Ne Nat r 404 → Q (.ref r) { s with heap := h', toks := tk' }) :
   wpAny (model PySem.Challenge.rw_ke0006_01.row.prog w) (ktrTop dp un gd (Str.ofString "law") lawScope L a (.ref 408) [(Str.ofString "without", c8), (Str.ofString "v", c7), (Str.ofString "table", c6), (Str.ofString "pos", c5), (Str.ofString "off", c4), (Str.ofString "kind", c3), (Str.ofString "flags", c2), (Str.ofString "data", c1)] []) (eval (rowE 5) (envX (Str.ofString "law") lawScope L a (.ref 408) [(Str.ofString "without", c8), (Str.ofString "v", c7), (Str.ofString "table", c6), (Str.ofString "pos", c5), (Str.ofString "off", c4), (Str.ofString "kind", c3), (Str.ofString "flags", c2), (Str.ofString "data", c1)])) Q E s := by
  revert X; k_fill; intro X
  show wpAny _ _ (eval (.Tuple _ _ _) _) _ _ _
  k_steps
  all_goals (first | exact hret _ _ _ _ _ _ (by assumption) (cb_drop (by assumption) (by kcj_in)) (neN (by omega)))
theorem kw81 : True := by
  w_top off
  k_with "mine lam" => (k_dflt exact lam6 (List.mem_cons_of_mem _ List.mem_cons_self) (by assumption) (by assumption) hb (mem3 m1) (mem3 m2) (mem3 m3) h0 h1 h2 h3 h4 h5 (mem3 n7) d7 (mem3 n6) d6 List.mem_cons_self)
  trivial
theorem row6 {w : World} {mean : ExcName → Option Value} {mg mb : Str → Option Value} {p : Program} {loose : List Str} {c1 c2 c3 c4 c5 c6 c7 c8 : Addr} {o1 o2 o3 o4 o5 o6 o7 o8 : Obj} {x dx D lo : Addr} {b : Array UInt8} {ws : List Value} {co : Nat} {pos v off kind : Int} {tp tv to tki td ti ui : Tok} {dA : Ans} {ps : Array Value} {led : List (Addr × Obj)} {m : Str → Option Value}
   (dp un : Nat) (gd : Option (List Code)) (a : Addr) (A₀ : Around) (base h₀ : Heap) (L : Addr) (s : Shared) (Q : Value → Shared → Prop) (E : Value → Shared → Prop) (B : Below A₀ base [] h₀) (X : (hd.heap_1 w.params).In h₀) (T : Top p loose mean mg mb h₀) (XB : (hd.heap_1 w.params).In base) (TB : Top p loose mean mg mb base) (hd : dp + 50 < recursionLimit) (hu : un + 900 < cLine) (hC : CodeHd h₀ 408 404) (hoff : ∀ q ∈ led, q.1 ≠ 404) (hps : TriplesOk ps.toList) (hno : codeAmong (lamPos 6) ps.toList = none)
   (h0 : 0 ≤ pos) (h1 : pos < 48) (h2 : 0 ≤ v) (h3 : v < 24) (h4 : 0 ≤ off) (h5 : off < 24) (hk1 : 0 ≤ kind) (hk2 : kind < 9) (hA : DefOk dA kind off) (hi : IntsAre ws (ocs b)) (hb : b.size ≤ 64)
   (m1 : (x, tabObj' dx D pos tp) ∈ led) (m2 : (dx, dictOf [] 0) ∈ led) (m3 : (D, baObj b) ∈ led) (m4 : (lo, listOf ws.toArray co) ∈ led)
   (n1 : (c1, o1) ∈ led) (d1 : o1.data = .cell (some (.ref D))) (n2 : (c2, o2) ∈ led) (d2 : o2.data = .cell (some (.ref (clsK kind.toNat)))) (n3 : (c3, o3) ∈ led) (d3 : o3.data = .cell (some (.int kind tki))) (n4 : (c4, o4) ∈ led) (d4 : o4.data = .cell (some (.int off to))) (n5 : (c5, o5) ∈ led) (d5 : o5.data = .cell (some (.int pos tp))) (n6 : (c6, o6) ∈ led) (d6 : o6.data = .cell (some (.ref x))) (n7 : (c7, o7) ∈ led) (d7 : o7.data = .cell (some (.int v tv))) (n8 : (c8, o8) ∈ led) (d8 : o8.data = .cell (some (dA.val td)))
   (F : Fr h₀ L s.heap (fun z => if z = Str.ofString "many" then some ((vlen b (pos + off)).val ui) else if z = Str.ofString "first" then some ((vec b (pos + off)).val ti) else if z = Str.ofString "octets" then some (.ref lo) else m z))
   (N : News h₀ L s.heap ((404, tabObj ps) :: led))
   (hret : ∀ (h' : Heap) (tk' : Nat) (r c' : Addr) (t u : Tok), Fr h₀ L h' (fun z => if z = Str.ofString "many" then some ((vlen b (pos + off)).val ui) else if z = Str.ofString "first" then some ((vec b (pos + off)).val ti) else if z = Str.ofString "octets" then some (.ref lo) else m z) →
     News h₀ L h' ((404, tabObj (ps ++ #[rawInt (lamPos 6).line, rawInt (lamPos 6).col, .ref c'])) :: (r, vecTup (vslot b pos (65536 + v) 0) (.typ) t u) :: led) → @Ne Nat r 404 → Q (.ref r) { s with heap := h', toks := tk' }) :
   wpAny (model PySem.Challenge.rw_ke0006_01.row.prog w) (ktrTop dp un gd (Str.ofString "law") lawScope L a (.ref 408) [(Str.ofString "without", c8), (Str.ofString "v", c7), (Str.ofString "table", c6), (Str.ofString "pos", c5), (Str.ofString "off", c4), (Str.ofString "kind", c3), (Str.ofString "flags", c2), (Str.ofString "data", c1)] []) (eval (rowE 6) (envX (Str.ofString "law") lawScope L a (.ref 408) [(Str.ofString "without", c8), (Str.ofString "v", c7), (Str.ofString "table", c6), (Str.ofString "pos", c5), (Str.ofString "off", c4), (Str.ofString "kind", c3), (Str.ofString "flags", c2), (Str.ofString "data", c1)])) Q E s := by
  revert X; k_fill; intro X
  show wpAny _ _ (eval (.Tuple _ _ _) _) _ _ _
  k_steps
  all_goals (first | exact hret _ _ _ _ _ _ (by assumption) (cb_drop (by assumption) (by kcj_in)) (neN (by omega)))
end
section

theorem kw82 : True := by
  w_top off
  k_with "m call ref" => (k_here; (with_reducible show wpAny _ _ (call (Value.ref 360) _) _ _ _); k_dflt (refine' (lfar_ok ?zzh0 ?zzh1 ?zzhb ?zzhi ?zzm1).use ?zzkB ?zzkF ?zzkX ?zzkN ?zzkT ?zzkf ?zzkd ?zzku ?_); (k_extra "mine rc"); (case zzh0 => first | assumption | omega); (case zzh1 => first | assumption | omega); (case zzhb => assumption); (case zzhi => assumption); (case zzm1 => k_extra "mine mem"); (intro t' h' tk' F' N'))
  k_with "m call ref" => (k_here; (with_reducible show wpAny _ _ (call (Value.ref 374) _) _ _ _); k_dflt (refine' (lstr_ok ?zzh0 ?zzh1 ?zzhb ?zzhi ?zzm1).use ?zzkB ?zzkF ?zzkX ?zzkN ?zzkT ?zzkf ?zzkd ?zzku ?_); (k_extra "mine rc"); (case zzh0 => first | assumption | omega); (case zzh1 => first | assumption | omega); (case zzhb => assumption); (case zzhi => assumption); (case zzm1 => k_extra "mine mem"); (intro t' h' tk' F' N'))
  k_with "mine lam" => (k_dflt exact lam7 (List.mem_cons_of_mem _ List.mem_cons_self) (by assumption) (by assumption) hb (mem3 m1) (mem3 m2) (mem3 m3) h0 h1 h2 h3 h4 h5 (mem3 n6) d6 (mem3 n5) d5 (mem3 n4) d4 List.mem_cons_self)
  trivial
theorem row7 {w : World} {mean : ExcName → Option Value} {mg mb : Str → Option Value} {p : Program} {loose : List Str} {c1 c2 c3 c4 c5 c6 c7 c8 : Addr} {o1 o2 o3 o4 o5 o6 o7 o8 : Obj} {x dx D lo : Addr} {b : Array UInt8} {ws : List Value} {co : Nat} {pos v off kind : Int} {tp tv to tki td ti ui : Tok} {dA : Ans} {ps : Array Value} {led : List (Addr × Obj)} {m : Str → Option Value}
   (dp un : Nat) (gd : Option (List Code)) (a : Addr) (A₀ : Around) (base h₀ : Heap) (L : Addr) (s : Shared) (Q : Value → Shared → Prop) (E : Value → Shared → Prop) (B : Below A₀ base [] h₀) (X : (hd.heap_1 w.params).In h₀) (T : Top p loose mean mg mb h₀) (XB : (hd.heap_1 w.params).In base) (TB : Top p loose mean mg mb base) (hd : dp + 50 < recursionLimit) (hu : un + 900 < cLine) (hC : CodeHd h₀ 408 404) (hoff : ∀ q ∈ led, q.1 ≠ 404) (hps : TriplesOk ps.toList) (hno : codeAmong (lamPos 7) ps.toList = none)
   (h0 : 0 ≤ pos) (h1 : pos < 48) (h2 : 0 ≤ v) (h3 : v < 24) (h4 : 0 ≤ off) (h5 : off < 24) (hk1 : 0 ≤ kind) (hk2 : kind < 9) (hA : DefOk dA kind off) (hi : IntsAre ws (ocs b)) (hb : b.size ≤ 64)
   (m1 : (x, tabObj' dx D pos tp) ∈ led) (m2 : (dx, dictOf [] 0) ∈ led) (m3 : (D, baObj b) ∈ led) (m4 : (lo, listOf ws.toArray co) ∈ led)
   (n1 : (c1, o1) ∈ led) (d1 : o1.data = .cell (some (.ref D))) (n2 : (c2, o2) ∈ led) (d2 : o2.data = .cell (some (.ref (clsK kind.toNat)))) (n3 : (c3, o3) ∈ led) (d3 : o3.data = .cell (some (.int kind tki))) (n4 : (c4, o4) ∈ led) (d4 : o4.data = .cell (some (.int off to))) (n5 : (c5, o5) ∈ led) (d5 : o5.data = .cell (some (.int pos tp))) (n6 : (c6, o6) ∈ led) (d6 : o6.data = .cell (some (.ref x))) (n7 : (c7, o7) ∈ led) (d7 : o7.data = .cell (some (.int v tv))) (n8 : (c8, o8) ∈ led) (d8 : o8.data = .cell (some (dA.val td)))
   (F : Fr h₀ L s.heap (fun z => if z = Str.ofString "many" then some ((vlen b (pos + off)).val ui) else if z = Str.ofString "first" then some ((vec b (pos + off)).val ti) else if z = Str.ofString "octets" then some (.ref lo) else m z))
   (N : News h₀ L s.heap ((404, tabObj ps) :: led))
   (hret : ∀ (h' : Heap) (tk' : Nat) (r c' : Addr) (t u : Tok), Fr h₀ L h' (fun z => if z = Str.ofString "many" then some ((vlen b (pos + off)).val ui) else if z = Str.ofString "first" then some ((vec b (pos + off)).val ti) else if z = Str.ofString "octets" then some (.ref lo) else m z) →
     News h₀ L h' ((404, tabObj (ps ++ #[rawInt (lamPos 7).line, rawInt (lamPos 7).col, .ref c'])) :: (r, vecTup (far b (pos + off)) (far b (pos + off)) t u) :: led) → @Ne Nat r 404 → Q (.ref r) { s with heap := h', toks := tk' }) :
   wpAny (model PySem.Challenge.rw_ke0006_01.row.prog w) (ktrTop dp un gd (Str.ofString "law") lawScope L a (.ref 408) [(Str.ofString "without", c8), (Str.ofString "v", c7), (Str.ofString "table", c6), (Str.ofString "pos", c5), (Str.ofString "off", c4), (Str.ofString "kind", c3), (Str.ofString "flags", c2), (Str.ofString "data", c1)] []) (eval (rowE 7) (envX (Str.ofString "law") lawScope L a (.ref 408) [(Str.ofString "without", c8), (Str.ofString "v", c7), (Str.ofString "table", c6), (Str.ofString "pos", c5), (Str.ofString "off", c4), (Str.ofString "kind", c3), (Str.ofString "flags", c2), (Str.ofString "data", c1)])) Q E s := by
  revert X; k_fill; intro X
  show wpAny _ _ (eval (.Tuple _ _ _) _) _ _ _
  k_steps
  all_goals (first | exact hret _ _ _ _ _ _ (by assumption) (cb_drop (by assumption) (by kcj_in)) (neN (by omega)))
theorem kw83 : True := by
  w_top off
  k_with "mine lam" => (k_dflt exact lam8 (List.mem_cons_of_mem _ List.mem_cons_self) (by assumption) (by assumption) hb (mem3 m1) (mem3 m2) (mem3 m3) h0 h1 h2 h3 h4 h5 (mem3 n6) d6 (mem3 n5) d5 (mem3 n4) d4 List.mem_cons_self)
  trivial
theorem row8 {w : World} {mean : ExcName → Option Value} {mg mb : Str → Option Value} {p : Program} {loose : List Str} {c1 c2 c3 c4 c5 c6 c7 c8 : Addr} {o1 o2 o3 o4 o5 o6 o7 o8 : Obj} {x dx D lo : Addr} {b : Array UInt8} {ws : List Value} {co : Nat} {pos v off kind : Int} {tp tv to tki td ti ui : Tok} {dA : Ans} {ps : Array Value} {led : List (Addr × Obj)} {m : Str → Option Value}
   (dp un : Nat) (gd : Option (List Code)) (a : Addr) (A₀ : Around) (base h₀ : Heap) (L : Addr) (s : Shared) (Q : Value → Shared → Prop) (E : Value → Shared → Prop) (B : Below A₀ base [] h₀) (X : (hd.heap_1 w.params).In h₀) (T : Top p loose mean mg mb h₀) (XB : (hd.heap_1 w.params).In base) (TB : Top p loose mean mg mb base) (hd : dp + 50 < recursionLimit) (hu : un + 900 < cLine) (hC : CodeHd h₀ 408 404) (hoff : ∀ q ∈ led, q.1 ≠ 404) (hps : TriplesOk ps.toList) (hno : codeAmong (lamPos 8) ps.toList = none)
   (h0 : 0 ≤ pos) (h1 : pos < 48) (h2 : 0 ≤ v) (h3 : v < 24) (h4 : 0 ≤ off) (h5 : off < 24) (hk1 : 0 ≤ kind) (hk2 : kind < 9) (hA : DefOk dA kind off) (hi : IntsAre ws (ocs b)) (hb : b.size ≤ 64)
   (m1 : (x, tabObj' dx D pos tp) ∈ led) (m2 : (dx, dictOf [] 0) ∈ led) (m3 : (D, baObj b) ∈ led) (m4 : (lo, listOf ws.toArray co) ∈ led)
   (n1 : (c1, o1) ∈ led) (d1 : o1.data = .cell (some (.ref D))) (n2 : (c2, o2) ∈ led) (d2 : o2.data = .cell (some (.ref (clsK kind.toNat)))) (n3 : (c3, o3) ∈ led) (d3 : o3.data = .cell (some (.int kind tki))) (n4 : (c4, o4) ∈ led) (d4 : o4.data = .cell (some (.int off to))) (n5 : (c5, o5) ∈ led) (d5 : o5.data = .cell (some (.int pos tp))) (n6 : (c6, o6) ∈ led) (d6 : o6.data = .cell (some (.ref x))) (n7 : (c7, o7) ∈ led) (d7 : o7.data = .cell (some (.int v tv))) (n8 : (c8, o8) ∈ led) (d8 : o8.data = .cell (some (dA.val td)))
   (F : Fr h₀ L s.heap (fun z => if z = Str.ofString "many" then some ((vlen b (pos + off)).val ui) else if z = Str.ofString "first" then some ((vec b (pos + off)).val ti) else if z = Str.ofString "octets" then some (.ref lo) else m z))
   (N : News h₀ L s.heap ((404, tabObj ps) :: led))
   (hret : ∀ (h' : Heap) (tk' : Nat) (r c' : Addr) (t u : Tok), Fr h₀ L h' (fun z => if z = Str.ofString "many" then some ((vlen b (pos + off)).val ui) else if z = Str.ofString "first" then some ((vec b (pos + off)).val ti) else if z = Str.ofString "octets" then some (.ref lo) else m z) →
     News h₀ L h' ((404, tabObj (ps ++ #[rawInt (lamPos 8).line, rawInt (lamPos 8).col, .ref c'])) :: (r, vecTup (str b (pos + off)) (str b (pos + off)) t u) :: led) → @Ne Nat r 404 → Q (.ref r) { s with heap := h', toks := tk' }) :
   wpAny (model PySem.Challenge.rw_ke0006_01.row.prog w) (ktrTop dp un gd (Str.ofString "law") lawScope L a (.ref 408) [(Str.ofString "without", c8), (Str.ofString "v", c7), (Str.ofString "table", c6), (Str.ofString "pos", c5), (Str.ofString "off", c4), (Str.ofString "kind", c3), (Str.ofString "flags", c2), (Str.ofString "data", c1)] []) (eval (rowE 8) (envX (Str.ofString "law") lawScope L a (.ref 408) [(Str.ofString "without", c8), (Str.ofString "v", c7), (Str.ofString "table", c6), (Str.ofString "pos", c5), (Str.ofString "off", c4), (Str.ofString "kind", c3), (Str.ofString "flags", c2), (Str.ofString "data", c1)])) Q E s := by
  revert X; k_fill; intro X
  show wpAny _ _ (eval (.Tuple _ _ _) _) _ _ _
  k_steps
  all_goals (first | exact hret _ _ _ _ _ _ (by assumption) (cb_drop (by assumption) (by kcj_in)) (neN (by omega)))
theorem kw84 : True := by
  w_top off
  k_with "mine lam" => (k_dflt exact lam9 (List.mem_cons_of_mem _ List.mem_cons_self) (by assumption) (by assumption) hb (mem3 m1) (mem3 m2) (mem3 m3) h0 h1 h2 h3 h4 h5 (mem3 n6) d6 (mem3 n4) d4 List.mem_cons_self)
  trivial
theorem row9 {w : World} {mean : ExcName → Option Value} {mg mb : Str → Option Value} {p : Program} {loose : List Str} {c1 c2 c3 c4 c5 c6 c7 c8 : Addr} {o1 o2 o3 o4 o5 o6 o7 o8 : Obj} {x dx D lo : Addr} {b : Array UInt8} {ws : List Value} {co : Nat} {pos v off kind : Int} {tp tv to tki td ti ui : Tok} {dA : Ans} {ps : Array Value} {led : List (Addr × Obj)} {m : Str → Option Value}
   (dp un : Nat) (gd : Option (List Code)) (a : Addr) (A₀ : Around) (base h₀ : Heap) (L : Addr) (s : Shared) (Q : Value → Shared → Prop) (E : Value → Shared → Prop) (B : Below A₀ base [] h₀) (X : (hd.heap_1 w.params).In h₀) (T : Top p loose mean mg mb h₀) (XB : (hd.heap_1 w.params).In base) (TB : Top p loose mean mg mb base) (hd : dp + 50 < recursionLimit) (hu : un + 900 < cLine) (hC : CodeHd h₀ 408 404) (hoff : ∀ q ∈ led, q.1 ≠ 404) (hps : TriplesOk ps.toList) (hno : codeAmong (lamPos 9) ps.toList = none)
   (h0 : 0 ≤ pos) (h1 : pos < 48) (h2 : 0 ≤ v) (h3 : v < 24) (h4 : 0 ≤ off) (h5 : off < 24) (hk1 : 0 ≤ kind) (hk2 : kind < 9) (hA : DefOk dA kind off) (hi : IntsAre ws (ocs b)) (hb : b.size ≤ 64)
   (m1 : (x, tabObj' dx D pos tp) ∈ led) (m2 : (dx, dictOf [] 0) ∈ led) (m3 : (D, baObj b) ∈ led) (m4 : (lo, listOf ws.toArray co) ∈ led)
   (n1 : (c1, o1) ∈ led) (d1 : o1.data = .cell (some (.ref D))) (n2 : (c2, o2) ∈ led) (d2 : o2.data = .cell (some (.ref (clsK kind.toNat)))) (n3 : (c3, o3) ∈ led) (d3 : o3.data = .cell (some (.int kind tki))) (n4 : (c4, o4) ∈ led) (d4 : o4.data = .cell (some (.int off to))) (n5 : (c5, o5) ∈ led) (d5 : o5.data = .cell (some (.int pos tp))) (n6 : (c6, o6) ∈ led) (d6 : o6.data = .cell (some (.ref x))) (n7 : (c7, o7) ∈ led) (d7 : o7.data = .cell (some (.int v tv))) (n8 : (c8, o8) ∈ led) (d8 : o8.data = .cell (some (dA.val td)))
   (F : Fr h₀ L s.heap (fun z => if z = Str.ofString "many" then some ((vlen b (pos + off)).val ui) else if z = Str.ofString "first" then some ((vec b (pos + off)).val ti) else if z = Str.ofString "octets" then some (.ref lo) else m z))
   (N : News h₀ L s.heap ((404, tabObj ps) :: led))
   (hret : ∀ (h' : Heap) (tk' : Nat) (r c' : Addr) (t u : Tok), Fr h₀ L h' (fun z => if z = Str.ofString "many" then some ((vlen b (pos + off)).val ui) else if z = Str.ofString "first" then some ((vec b (pos + off)).val ti) else if z = Str.ofString "octets" then some (.ref lo) else m z) →
     News h₀ L h' ((404, tabObj (ps ++ #[rawInt (lamPos 9).line, rawInt (lamPos 9).col, .ref c'])) :: (r, vecTup (vec b (pos + off)) (vec b (pos + off)) t u) :: led) → @Ne Nat r 404 → Q (.ref r) { s with heap := h', toks := tk' }) :
   wpAny (model PySem.Challenge.rw_ke0006_01.row.prog w) (ktrTop dp un gd (Str.ofString "law") lawScope L a (.ref 408) [(Str.ofString "without", c8), (Str.ofString "v", c7), (Str.ofString "table", c6), (Str.ofString "pos", c5), (Str.ofString "off", c4), (Str.ofString "kind", c3), (Str.ofString "flags", c2), (Str.ofString "data", c1)] []) (eval (rowE 9) (envX (Str.ofString "law") lawScope L a (.ref 408) [(Str.ofString "without", c8), (Str.ofString "v", c7), (Str.ofString "table", c6), (Str.ofString "pos", c5), (Str.ofString "off", c4), (Str.ofString "kind", c3), (Str.ofString "flags", c2), (Str.ofString "data", c1)])) Q E s := by
  revert X; k_fill; intro X
  show wpAny _ _ (eval (.Tuple _ _ _) _) _ _ _
  k_steps
  all_goals (first | exact hret _ _ _ _ _ _ (by assumption) (cb_drop (by assumption) (by kcj_in)) (neN (by omega)))
theorem kw85 : True := by
  w_top off
  k_with "mine lam" => (k_dflt exact lam10 (List.mem_cons_of_mem _ List.mem_cons_self) (by assumption) (by assumption) hb (mem3 m1) (mem3 m2) (mem3 m3) h0 h1 h2 h3 h4 h5 (mem3 n6) d6 (mem3 n4) d4 List.mem_cons_self)
  trivial
theorem row10 {w : World} {mean : ExcName → Option Value} {mg mb : Str → Option Value} {p : Program} {loose : List Str} {c1 c2 c3 c4 c5 c6 c7 c8 : Addr} {o1 o2 o3 o4 o5 o6 o7 o8 : Obj} {x dx D lo : Addr} {b : Array UInt8} {ws : List Value} {co : Nat} {pos v off kind : Int} {tp tv to tki td ti ui : Tok} {dA : Ans} {ps : Array Value} {led : List (Addr × Obj)} {m : Str → Option Value}
   (dp un : Nat) (gd : Option (List Code)) (a : Addr) (A₀ : Around) (base h₀ : Heap) (L : Addr) (s : Shared) (Q : Value → Shared → Prop) (E : Value → Shared → Prop) (B : Below A₀ base [] h₀) (X : (hd.heap_1 w.params).In h₀) (T : Top p loose mean mg mb h₀) (XB : (hd.heap_1 w.params).In base) (TB : Top p loose mean mg mb base) (hd : dp + 50 < recursionLimit) (hu : un + 900 < cLine) (hC : CodeHd h₀ 408 404) (hoff : ∀ q ∈ led, q.1 ≠ 404) (hps : TriplesOk ps.toList) (hno : codeAmong (lamPos 10) ps.toList = none)
   (h0 : 0 ≤ pos) (h1 : pos < 48) (h2 : 0 ≤ v) (h3 : v < 24) (h4 : 0 ≤ off) (h5 : off < 24) (hk1 : 0 ≤ kind) (hk2 : kind < 9) (hA : DefOk dA kind off) (hi : IntsAre ws (ocs b)) (hb : b.size ≤ 64)
   (m1 : (x, tabObj' dx D pos tp) ∈ led) (m2 : (dx, dictOf [] 0) ∈ led) (m3 : (D, baObj b) ∈ led) (m4 : (lo, listOf ws.toArray co) ∈ led)
   (n1 : (c1, o1) ∈ led) (d1 : o1.data = .cell (some (.ref D))) (n2 : (c2, o2) ∈ led) (d2 : o2.data = .cell (some (.ref (clsK kind.toNat)))) (n3 : (c3, o3) ∈ led) (d3 : o3.data = .cell (some (.int kind tki))) (n4 : (c4, o4) ∈ led) (d4 : o4.data = .cell (some (.int off to))) (n5 : (c5, o5) ∈ led) (d5 : o5.data = .cell (some (.int pos tp))) (n6 : (c6, o6) ∈ led) (d6 : o6.data = .cell (some (.ref x))) (n7 : (c7, o7) ∈ led) (d7 : o7.data = .cell (some (.int v tv))) (n8 : (c8, o8) ∈ led) (d8 : o8.data = .cell (some (dA.val td)))
   (F : Fr h₀ L s.heap (fun z => if z = Str.ofString "many" then some ((vlen b (pos + off)).val ui) else if z = Str.ofString "first" then some ((vec b (pos + off)).val ti) else if z = Str.ofString "octets" then some (.ref lo) else m z))
   (N : News h₀ L s.heap ((404, tabObj ps) :: led))
   (hret : ∀ (h' : Heap) (tk' : Nat) (r c' : Addr) (t u : Tok), Fr h₀ L h' (fun z => if z = Str.ofString "many" then some ((vlen b (pos + off)).val ui) else if z = Str.ofString "first" then some ((vec b (pos + off)).val ti) else if z = Str.ofString "octets" then some (.ref lo) else m z) →
     News h₀ L h' ((404, tabObj (ps ++ #[rawInt (lamPos 10).line, rawInt (lamPos 10).col, .ref c'])) :: (r, vecTup (vlen b (pos + off)) (vlen b (pos + off)) t u) :: led) → @Ne Nat r 404 → Q (.ref r) { s with heap := h', toks := tk' }) :
   wpAny (model PySem.Challenge.rw_ke0006_01.row.prog w) (ktrTop dp un gd (Str.ofString "law") lawScope L a (.ref 408) [(Str.ofString "without", c8), (Str.ofString "v", c7), (Str.ofString "table", c6), (Str.ofString "pos", c5), (Str.ofString "off", c4), (Str.ofString "kind", c3), (Str.ofString "flags", c2), (Str.ofString "data", c1)] []) (eval (rowE 10) (envX (Str.ofString "law") lawScope L a (.ref 408) [(Str.ofString "without", c8), (Str.ofString "v", c7), (Str.ofString "table", c6), (Str.ofString "pos", c5), (Str.ofString "off", c4), (Str.ofString "kind", c3), (Str.ofString "flags", c2), (Str.ofString "data", c1)])) Q E s := by
  revert X; k_fill; intro X
  show wpAny _ _ (eval (.Tuple _ _ _) _) _ _ _
  k_steps
  all_goals (first | exact hret _ _ _ _ _ _ (by assumption) (cb_drop (by assumption) (by kcj_in)) (neN (by omega)))
end
section

theorem kw86 : True := by
  w_top off
  k_with "m call ref" => (k_here; (with_reducible show wpAny _ _ (call (Value.ref 360) _) _ _ _); k_dflt (refine' (lfar_ok ?zzh0 ?zzh1 ?zzhb ?zzhi ?zzm1).use ?zzkB ?zzkF ?zzkX ?zzkN ?zzkT ?zzkf ?zzkd ?zzku ?_); (k_extra "mine rc"); (case zzh0 => first | assumption | omega); (case zzh1 => first | assumption | omega); (case zzhb => assumption); (case zzhi => assumption); (case zzm1 => k_extra "mine mem"); (intro t' h' tk' F' N'))
  k_with "mine lam" => (k_dflt exact lam11 (List.mem_cons_of_mem _ List.mem_cons_self) (by assumption) (by assumption) hb (mem3 m1) (mem3 m2) (mem3 m3) h0 h1 h2 h3 h4 h5 (mem3 n6) d6 (mem3 n4) d4 List.mem_cons_self)
  trivial
theorem row11 {w : World} {mean : ExcName → Option Value} {mg mb : Str → Option Value} {p : Program} {loose : List Str} {c1 c2 c3 c4 c5 c6 c7 c8 : Addr} {o1 o2 o3 o4 o5 o6 o7 o8 : Obj} {x dx D lo : Addr} {b : Array UInt8} {ws : List Value} {co : Nat} {pos v off kind : Int} {tp tv to tki td ti ui : Tok} {dA : Ans} {ps : Array Value} {led : List (Addr × Obj)} {m : Str → Option Value}
   (dp un : Nat) (gd : Option (List Code)) (a : Addr) (A₀ : Around) (base h₀ : Heap) (L : Addr) (s : Shared) (Q : Value → Shared → Prop) (E : Value → Shared → Prop) (B : Below A₀ base [] h₀) (X : (hd.heap_1 w.params).In h₀) (T : Top p loose mean mg mb h₀) (XB : (hd.heap_1 w.params).In base) (TB : Top p loose mean mg mb base) (hd : dp + 50 < recursionLimit) (hu : un + 900 < cLine) (hC : CodeHd h₀ 408 404) (hoff : ∀ q ∈ led, q.1 ≠ 404) (hps : TriplesOk ps.toList) (hno : codeAmong (lamPos 11) ps.toList = none)
   (h0 : 0 ≤ pos) (h1 : pos < 48) (h2 : 0 ≤ v) (h3 : v < 24) (h4 : 0 ≤ off) (h5 : off < 24) (hk1 : 0 ≤ kind) (hk2 : kind < 9) (hA : DefOk dA kind off) (hi : IntsAre ws (ocs b)) (hb : b.size ≤ 64)
   (m1 : (x, tabObj' dx D pos tp) ∈ led) (m2 : (dx, dictOf [] 0) ∈ led) (m3 : (D, baObj b) ∈ led) (m4 : (lo, listOf ws.toArray co) ∈ led)
   (n1 : (c1, o1) ∈ led) (d1 : o1.data = .cell (some (.ref D))) (n2 : (c2, o2) ∈ led) (d2 : o2.data = .cell (some (.ref (clsK kind.toNat)))) (n3 : (c3, o3) ∈ led) (d3 : o3.data = .cell (some (.int kind tki))) (n4 : (c4, o4) ∈ led) (d4 : o4.data = .cell (some (.int off to))) (n5 : (c5, o5) ∈ led) (d5 : o5.data = .cell (some (.int pos tp))) (n6 : (c6, o6) ∈ led) (d6 : o6.data = .cell (some (.ref x))) (n7 : (c7, o7) ∈ led) (d7 : o7.data = .cell (some (.int v tv))) (n8 : (c8, o8) ∈ led) (d8 : o8.data = .cell (some (dA.val td)))
   (F : Fr h₀ L s.heap (fun z => if z = Str.ofString "many" then some ((vlen b (pos + off)).val ui) else if z = Str.ofString "first" then some ((vec b (pos + off)).val ti) else if z = Str.ofString "octets" then some (.ref lo) else m z))
   (N : News h₀ L s.heap ((404, tabObj ps) :: led))
   (hret : ∀ (h' : Heap) (tk' : Nat) (r c' : Addr) (t u : Tok), Fr h₀ L h' (fun z => if z = Str.ofString "many" then some ((vlen b (pos + off)).val ui) else if z = Str.ofString "first" then some ((vec b (pos + off)).val ti) else if z = Str.ofString "octets" then some (.ref lo) else m z) →
     News h₀ L h' ((404, tabObj (ps ++ #[rawInt (lamPos 11).line, rawInt (lamPos 11).col, .ref c'])) :: (r, vecTup (far b (pos + off)) (far b (pos + off)) t u) :: led) → @Ne Nat r 404 → Q (.ref r) { s with heap := h', toks := tk' }) :
   wpAny (model PySem.Challenge.rw_ke0006_01.row.prog w) (ktrTop dp un gd (Str.ofString "law") lawScope L a (.ref 408) [(Str.ofString "without", c8), (Str.ofString "v", c7), (Str.ofString "table", c6), (Str.ofString "pos", c5), (Str.ofString "off", c4), (Str.ofString "kind", c3), (Str.ofString "flags", c2), (Str.ofString "data", c1)] []) (eval (rowE 11) (envX (Str.ofString "law") lawScope L a (.ref 408) [(Str.ofString "without", c8), (Str.ofString "v", c7), (Str.ofString "table", c6), (Str.ofString "pos", c5), (Str.ofString "off", c4), (Str.ofString "kind", c3), (Str.ofString "flags", c2), (Str.ofString "data", c1)])) Q E s := by
  revert X; k_fill; intro X
  show wpAny _ _ (eval (.Tuple _ _ _) _) _ _ _
  k_steps
  all_goals (first | exact hret _ _ _ _ _ _ (by assumption) (cb_drop (by assumption) (by kcj_in)) (neN (by omega)))
theorem kw87 : True := by
  w_top off
  k_with "mine lam" => (k_dflt exact lam12 (List.mem_cons_of_mem _ List.mem_cons_self) (by assumption) (by assumption) hb (mem3 m1) (mem3 m2) (mem3 m3) h0 h1 h2 h3 h4 h5 (mem3 n6) d6 (mem3 n4) d4 List.mem_cons_self)
  trivial
theorem row12 {w : World} {mean : ExcName → Option Value} {mg mb : Str → Option Value} {p : Program} {loose : List Str} {c1 c2 c3 c4 c5 c6 c7 c8 : Addr} {o1 o2 o3 o4 o5 o6 o7 o8 : Obj} {x dx D lo : Addr} {b : Array UInt8} {ws : List Value} {co : Nat} {pos v off kind : Int} {tp tv to tki td ti ui : Tok} {dA : Ans} {ps : Array Value} {led : List (Addr × Obj)} {m : Str → Option Value}
   (dp un : Nat) (gd : Option (List Code)) (a : Addr) (A₀ : Around) (base h₀ : Heap) (L : Addr) (s : Shared) (Q : Value → Shared → Prop) (E : Value → Shared → Prop) (B : Below A₀ base [] h₀) (X : (hd.heap_1 w.params).In h₀) (T : Top p loose mean mg mb h₀) (XB : (hd.heap_1 w.params).In base) (TB : Top p loose mean mg mb base) (hd : dp + 50 < recursionLimit) (hu : un + 900 < cLine) (hC : CodeHd h₀ 408 404) (hoff : ∀ q ∈ led, q.1 ≠ 404) (hps : TriplesOk ps.toList) (hno : codeAmong (lamPos 12) ps.toList = none)
   (h0 : 0 ≤ pos) (h1 : pos < 48) (h2 : 0 ≤ v) (h3 : v < 24) (h4 : 0 ≤ off) (h5 : off < 24) (hk1 : 0 ≤ kind) (hk2 : kind < 9) (hA : DefOk dA kind off) (hi : IntsAre ws (ocs b)) (hb : b.size ≤ 64)
   (m1 : (x, tabObj' dx D pos tp) ∈ led) (m2 : (dx, dictOf [] 0) ∈ led) (m3 : (D, baObj b) ∈ led) (m4 : (lo, listOf ws.toArray co) ∈ led)
   (n1 : (c1, o1) ∈ led) (d1 : o1.data = .cell (some (.ref D))) (n2 : (c2, o2) ∈ led) (d2 : o2.data = .cell (some (.ref (clsK kind.toNat)))) (n3 : (c3, o3) ∈ led) (d3 : o3.data = .cell (some (.int kind tki))) (n4 : (c4, o4) ∈ led) (d4 : o4.data = .cell (some (.int off to))) (n5 : (c5, o5) ∈ led) (d5 : o5.data = .cell (some (.int pos tp))) (n6 : (c6, o6) ∈ led) (d6 : o6.data = .cell (some (.ref x))) (n7 : (c7, o7) ∈ led) (d7 : o7.data = .cell (some (.int v tv))) (n8 : (c8, o8) ∈ led) (d8 : o8.data = .cell (some (dA.val td)))
   (F : Fr h₀ L s.heap (fun z => if z = Str.ofString "many" then some ((vlen b (pos + off)).val ui) else if z = Str.ofString "first" then some ((vec b (pos + off)).val ti) else if z = Str.ofString "octets" then some (.ref lo) else m z))
   (N : News h₀ L s.heap ((404, tabObj ps) :: led))
   (hret : ∀ (h' : Heap) (tk' : Nat) (r c' : Addr) (t u : Tok), Fr h₀ L h' (fun z => if z = Str.ofString "many" then some ((vlen b (pos + off)).val ui) else if z = Str.ofString "first" then some ((vec b (pos + off)).val ti) else if z = Str.ofString "octets" then some (.ref lo) else m z) →
     News h₀ L h' ((404, tabObj (ps ++ #[rawInt (lamPos 12).line, rawInt (lamPos 12).col, .ref c'])) :: (r, vecTup (far b (0 - 1 - off)) (.typ) t u) :: led) → @Ne Nat r 404 → Q (.ref r) { s with heap := h', toks := tk' }) :
   wpAny (model PySem.Challenge.rw_ke0006_01.row.prog w) (ktrTop dp un gd (Str.ofString "law") lawScope L a (.ref 408) [(Str.ofString "without", c8), (Str.ofString "v", c7), (Str.ofString "table", c6), (Str.ofString "pos", c5), (Str.ofString "off", c4), (Str.ofString "kind", c3), (Str.ofString "flags", c2), (Str.ofString "data", c1)] []) (eval (rowE 12) (envX (Str.ofString "law") lawScope L a (.ref 408) [(Str.ofString "without", c8), (Str.ofString "v", c7), (Str.ofString "table", c6), (Str.ofString "pos", c5), (Str.ofString "off", c4), (Str.ofString "kind", c3), (Str.ofString "flags", c2), (Str.ofString "data", c1)])) Q E s := by
  revert X; k_fill; intro X
  show wpAny _ _ (eval (.Tuple _ _ _) _) _ _ _
  k_steps
  all_goals (first | exact hret _ _ _ _ _ _ (by assumption) (cb_drop (by assumption) (by kcj_in)) (neN (by omega)))
theorem kw88 : True := by
  w_top off
  k_with "mine lam" => (k_dflt exact lam13 (List.mem_cons_of_mem _ List.mem_cons_self) (by assumption) (by assumption) hb (mem3 m1) (mem3 m2) (mem3 m3) h0 h1 h2 h3 h4 h5 (mem3 n5) d5 (mem3 n1) d1 List.mem_cons_self)
  trivial
theorem row13 {w : World} {mean : ExcName → Option Value} {mg mb : Str → Option Value} {p : Program} {loose : List Str} {c1 c2 c3 c4 c5 c6 c7 c8 : Addr} {o1 o2 o3 o4 o5 o6 o7 o8 : Obj} {x dx D lo : Addr} {b : Array UInt8} {ws : List Value} {co : Nat} {pos v off kind : Int} {tp tv to tki td ti ui : Tok} {dA : Ans} {ps : Array Value} {led : List (Addr × Obj)} {m : Str → Option Value}
   (dp un : Nat) (gd : Option (List Code)) (a : Addr) (A₀ : Around) (base h₀ : Heap) (L : Addr) (s : Shared) (Q : Value → Shared → Prop) (E : Value → Shared → Prop) (B : Below A₀ base [] h₀) (X : (hd.heap_1 w.params).In h₀) (T : Top p loose mean mg mb h₀) (XB : (hd.heap_1 w.params).In base) (TB : Top p loose mean mg mb base) (hd : dp + 50 < recursionLimit) (hu : un + 900 < cLine) (hC : CodeHd h₀ 408 404) (hoff : ∀ q ∈ led, q.1 ≠ 404) (hps : TriplesOk ps.toList) (hno : codeAmong (lamPos 13) ps.toList = none)
   (h0 : 0 ≤ pos) (h1 : pos < 48) (h2 : 0 ≤ v) (h3 : v < 24) (h4 : 0 ≤ off) (h5 : off < 24) (hk1 : 0 ≤ kind) (hk2 : kind < 9) (hA : DefOk dA kind off) (hi : IntsAre ws (ocs b)) (hb : b.size ≤ 64)
   (m1 : (x, tabObj' dx D pos tp) ∈ led) (m2 : (dx, dictOf [] 0) ∈ led) (m3 : (D, baObj b) ∈ led) (m4 : (lo, listOf ws.toArray co) ∈ led)
   (n1 : (c1, o1) ∈ led) (d1 : o1.data = .cell (some (.ref D))) (n2 : (c2, o2) ∈ led) (d2 : o2.data = .cell (some (.ref (clsK kind.toNat)))) (n3 : (c3, o3) ∈ led) (d3 : o3.data = .cell (some (.int kind tki))) (n4 : (c4, o4) ∈ led) (d4 : o4.data = .cell (some (.int off to))) (n5 : (c5, o5) ∈ led) (d5 : o5.data = .cell (some (.int pos tp))) (n6 : (c6, o6) ∈ led) (d6 : o6.data = .cell (some (.ref x))) (n7 : (c7, o7) ∈ led) (d7 : o7.data = .cell (some (.int v tv))) (n8 : (c8, o8) ∈ led) (d8 : o8.data = .cell (some (dA.val td)))
   (F : Fr h₀ L s.heap (fun z => if z = Str.ofString "many" then some ((vlen b (pos + off)).val ui) else if z = Str.ofString "first" then some ((vec b (pos + off)).val ti) else if z = Str.ofString "octets" then some (.ref lo) else m z))
   (N : News h₀ L s.heap ((404, tabObj ps) :: led))
   (hret : ∀ (h' : Heap) (tk' : Nat) (r c' : Addr) (t u : Tok), Fr h₀ L h' (fun z => if z = Str.ofString "many" then some ((vlen b (pos + off)).val ui) else if z = Str.ofString "first" then some ((vec b (pos + off)).val ti) else if z = Str.ofString "octets" then some (.ref lo) else m z) →
     News h₀ L h' ((404, tabObj (ps ++ #[rawInt (lamPos 13).line, rawInt (lamPos 13).col, .ref c'])) :: (r, vecTup (.typ) (.typ) t u) :: led) → @Ne Nat r 404 → Q (.ref r) { s with heap := h', toks := tk' }) :
   wpAny (model PySem.Challenge.rw_ke0006_01.row.prog w) (ktrTop dp un gd (Str.ofString "law") lawScope L a (.ref 408) [(Str.ofString "without", c8), (Str.ofString "v", c7), (Str.ofString "table", c6), (Str.ofString "pos", c5), (Str.ofString "off", c4), (Str.ofString "kind", c3), (Str.ofString "flags", c2), (Str.ofString "data", c1)] []) (eval (rowE 13) (envX (Str.ofString "law") lawScope L a (.ref 408) [(Str.ofString "without", c8), (Str.ofString "v", c7), (Str.ofString "table", c6), (Str.ofString "pos", c5), (Str.ofString "off", c4), (Str.ofString "kind", c3), (Str.ofString "flags", c2), (Str.ofString "data", c1)])) Q E s := by
  revert X; k_fill; intro X
  show wpAny _ _ (eval (.Tuple _ _ _) _) _ _ _
  k_steps
  all_goals (first | exact hret _ _ _ _ _ _ (by assumption) (cb_drop (by assumption) (by kcj_in)) (neN (by omega)))
end
section
/-- the objects that the rows read -/
def lawLed (x dx D lo c1 c2 c3 c4 c5 c6 c7 c8 : Addr) (o1 o2 o3 o4 o5 o6 o7 o8 : Obj) (b : Array UInt8) (ws : List Value) (co : Nat) (pos : Int) (tp : Tok) : List (Addr × Obj) :=
  (x, tabObj' dx D pos tp) :: (dx, dictOf [] 0) :: (D, baObj b) :: (lo, listOf ws.toArray co) :: (c1, o1) :: (c2, o2) :: (c3, o3) :: (c4, o4) :: (c5, o5) :: (c6, o6) :: (c7, o7) :: (c8, o8) :: []
def isTup : Expr → Bool | .Tuple .. => true | _ => false
theorem rowExprs_len : rowExprs.length = 14 := by decide +kernel
theorem rowE_tup : ∀ i < 14, isTup (rowE i) = true := by decide +kernel
theorem rowE_drop {i : Nat} (h : i < 14) : rowExprs.drop i = rowE i :: rowExprs.drop (i + 1) := by
  have hl : i < rowExprs.length := by rw [rowExprs_len]; exact h
  have e := List.drop_eq_getElem_cons hl
  have : rowE i = rowExprs[i] := by unfold rowE; rw [e]
  rw [this]; exact e
theorem star_tup {e : Expr} (h : isTup e = true) (rest : List Expr) (env : Env) : starEach (e :: rest) env = (false, eval e env) :: starEach rest env := by
  cases e <;> first | rfl | cases h
theorem lamPos_ne : ∀ i < 14, ∀ j < 14, i < j → (((lamPos i).line : Int) == ((lamPos j).line : Int) && ((lamPos i).col : Int) == ((lamPos j).col : Int)) = false := by decide +kernel
theorem codeAmong_skip {pos : Pos} {a b : Int} {c : Value} (l : List Value) (h : TriplesOk l) (hn : codeAmong pos l = none) (hne : (a == (pos.line : Int) && b == (pos.col : Int)) = false) :
    codeAmong pos (l ++ [rawInt a, rawInt b, c]) = none := by
  fun_induction TriplesOk l with
  | case1 => simp only [List.nil_append, rawInt, codeAmong, hne]; rfl
  | case2 a t b u x rest ih =>
    simp only [List.cons_append, codeAmong] at hn ⊢
    split at hn
    · cases hn
    · rename_i hc; rw [if_neg hc]; exact ih h hn
  | case3 l h1 h2 => exact h.elim
def FreshT (i : Nat) (ps : Array Value) : Prop := TriplesOk ps.toList ∧ ∀ j, i ≤ j → j < 14 → codeAmong (lamPos j) ps.toList = none
theorem FreshT.step {i : Nat} {ps : Array Value} {c : Value} (h : FreshT i ps) (hi : i < 14) : FreshT (i + 1) (ps ++ #[rawInt (lamPos i).line, rawInt (lamPos i).col, c]) := by
  refine ⟨?_, fun j hj hj2 => ?_⟩
  · rw [Array.toList_append]; exact TriplesOk_snoc _ _ _ _ h.1
  · rw [Array.toList_append]; exact codeAmong_skip _ h.1 (h.2 j (by omega) hj2) (lamPos_ne i hi j hj2 (by omega))
theorem FreshT.nil : FreshT 0 #[] := ⟨trivial, fun _ _ _ => rfl⟩
section
variable {w : World} {mean : ExcName → Option Value} {mg mb : Str → Option Value} {p : Program} {loose : List Str} {c1 c2 c3 c4 c5 c6 c7 c8 : Addr} {o1 o2 o3 o4 o5 o6 o7 o8 : Obj} {x dx D lo : Addr} {b : Array UInt8} {ws : List Value} {co : Nat} {pos v off kind : Int} {tp tv to tki td ti ui : Tok} {dA : Ans} {m : Str → Option Value}
theorem rowAll : ∀ i < 14, ∀ (ps : Array Value) (led : List (Addr × Obj)) (dp un : Nat) (gd : Option (List Code)) (a : Addr) (A₀ : Around) (base h₀ : Heap) (L : Addr) (s : Shared) (Q : Value → Shared → Prop) (E : Value → Shared → Prop) (B : Below A₀ base [] h₀) (X : (hd.heap_1 w.params).In h₀) (T : Top p loose mean mg mb h₀) (XB : (hd.heap_1 w.params).In base) (TB : Top p loose mean mg mb base) (hd : dp + 50 < recursionLimit) (hu : un + 900 < cLine) (hC : CodeHd h₀ 408 404) (h0 : 0 ≤ pos) (h1 : pos < 48) (h2 : 0 ≤ v) (h3 : v < 24) (h4 : 0 ≤ off) (h5 : off < 24) (hk1 : 0 ≤ kind) (hk2 : kind < 9) (hA : DefOk dA kind off) (hi : IntsAre ws (ocs b)) (hb : b.size ≤ 64)
   (d1 : o1.data = .cell (some (.ref D))) (d2 : o2.data = .cell (some (.ref (clsK kind.toNat)))) (d3 : o3.data = .cell (some (.int kind tki))) (d4 : o4.data = .cell (some (.int off to))) (d5 : o5.data = .cell (some (.int pos tp))) (d6 : o6.data = .cell (some (.ref x))) (d7 : o7.data = .cell (some (.int v tv))) (d8 : o8.data = .cell (some (dA.val td)))
   (hoff : ∀ q ∈ led, q.1 ≠ 404) (hf : FreshT i ps) (hsub : ∀ q ∈ lawLed x dx D lo c1 c2 c3 c4 c5 c6 c7 c8 o1 o2 o3 o4 o5 o6 o7 o8 b ws co pos tp, q ∈ led)
   (F : Fr h₀ L s.heap (fun z => if z = Str.ofString "many" then some ((vlen b (pos + off)).val ui) else if z = Str.ofString "first" then some ((vec b (pos + off)).val ti) else if z = Str.ofString "octets" then some (.ref lo) else m z))
   (N : News h₀ L s.heap ((404, tabObj ps) :: led))
   (hret : ∀ (h' : Heap) (tk' : Nat) (r c' : Addr) (t u : Tok), Fr h₀ L h' (fun z => if z = Str.ofString "many" then some ((vlen b (pos + off)).val ui) else if z = Str.ofString "first" then some ((vec b (pos + off)).val ti) else if z = Str.ofString "octets" then some (.ref lo) else m z) →
     News h₀ L h' ((404, tabObj (ps ++ #[rawInt (lamPos i).line, rawInt (lamPos i).col, .ref c'])) :: (r, vecTup (rowP b pos v off kind dA i).1 (rowP b pos v off kind dA i).2 t u) :: led) → @Ne Nat r 404 → Q (.ref r) { s with heap := h', toks := tk' }),
   wpAny (model PySem.Challenge.rw_ke0006_01.row.prog w) (ktrTop dp un gd (Str.ofString "law") lawScope L a (.ref 408) [(Str.ofString "without", c8), (Str.ofString "v", c7), (Str.ofString "table", c6), (Str.ofString "pos", c5), (Str.ofString "off", c4), (Str.ofString "kind", c3), (Str.ofString "flags", c2), (Str.ofString "data", c1)] []) (eval (rowE i) (envX (Str.ofString "law") lawScope L a (.ref 408) [(Str.ofString "without", c8), (Str.ofString "v", c7), (Str.ofString "table", c6), (Str.ofString "pos", c5), (Str.ofString "off", c4), (Str.ofString "kind", c3), (Str.ofString "flags", c2), (Str.ofString "data", c1)])) Q E s := by
  intro i hi ps led dp un gd a A₀ base h₀ L s Q E B X T XB TB hd hu hC h0 h1 h2 h3 h4 h5 hk1 hk2 hA hi' hb d1 d2 d3 d4 d5 d6 d7 d8 hoff hf hsub F N hret
  have hno := hf.2 i (Nat.le_refl i) hi
  match i, hi with
  | 0, _ => exact row0 dp un gd a A₀ base h₀ L s Q E B X T XB TB hd hu hC hoff hf.1 hno h0 h1 h2 h3 h4 h5 hk1 hk2 hA hi' hb (hsub _ (.head _)) (hsub _ (.tail _ (.head _))) (hsub _ (.tail _ (.tail _ (.head _)))) (hsub _ (.tail _ (.tail _ (.tail _ (.head _))))) (hsub _ (.tail _ (.tail _ (.tail _ (.tail _ (.head _)))))) d1 (hsub _ (.tail _ (.tail _ (.tail _ (.tail _ (.tail _ (.head _))))))) d2 (hsub _ (.tail _ (.tail _ (.tail _ (.tail _ (.tail _ (.tail _ (.head _)))))))) d3 (hsub _ (.tail _ (.tail _ (.tail _ (.tail _ (.tail _ (.tail _ (.tail _ (.head _))))))))) d4 (hsub _ (.tail _ (.tail _ (.tail _ (.tail _ (.tail _ (.tail _ (.tail _ (.tail _ (.head _)))))))))) d5 (hsub _ (.tail _ (.tail _ (.tail _ (.tail _ (.tail _ (.tail _ (.tail _ (.tail _ (.tail _ (.head _))))))))))) d6 (hsub _ (.tail _ (.tail _ (.tail _ (.tail _ (.tail _ (.tail _ (.tail _ (.tail _ (.tail _ (.tail _ (.head _)))))))))))) d7 (hsub _ (.tail _ (.tail _ (.tail _ (.tail _ (.tail _ (.tail _ (.tail _ (.tail _ (.tail _ (.tail _ (.tail _ (.head _))))))))))))) d8 F N hret
  | 1, _ => exact row1 dp un gd a A₀ base h₀ L s Q E B X T XB TB hd hu hC hoff hf.1 hno h0 h1 h2 h3 h4 h5 hk1 hk2 hA hi' hb (hsub _ (.head _)) (hsub _ (.tail _ (.head _))) (hsub _ (.tail _ (.tail _ (.head _)))) (hsub _ (.tail _ (.tail _ (.tail _ (.head _))))) (hsub _ (.tail _ (.tail _ (.tail _ (.tail _ (.head _)))))) d1 (hsub _ (.tail _ (.tail _ (.tail _ (.tail _ (.tail _ (.head _))))))) d2 (hsub _ (.tail _ (.tail _ (.tail _ (.tail _ (.tail _ (.tail _ (.head _)))))))) d3 (hsub _ (.tail _ (.tail _ (.tail _ (.tail _ (.tail _ (.tail _ (.tail _ (.head _))))))))) d4 (hsub _ (.tail _ (.tail _ (.tail _ (.tail _ (.tail _ (.tail _ (.tail _ (.tail _ (.head _)))))))))) d5 (hsub _ (.tail _ (.tail _ (.tail _ (.tail _ (.tail _ (.tail _ (.tail _ (.tail _ (.tail _ (.head _))))))))))) d6 (hsub _ (.tail _ (.tail _ (.tail _ (.tail _ (.tail _ (.tail _ (.tail _ (.tail _ (.tail _ (.tail _ (.head _)))))))))))) d7 (hsub _ (.tail _ (.tail _ (.tail _ (.tail _ (.tail _ (.tail _ (.tail _ (.tail _ (.tail _ (.tail _ (.tail _ (.head _))))))))))))) d8 F N hret
  | 2, _ => exact row2 dp un gd a A₀ base h₀ L s Q E B X T XB TB hd hu hC hoff hf.1 hno h0 h1 h2 h3 h4 h5 hk1 hk2 hA hi' hb (hsub _ (.head _)) (hsub _ (.tail _ (.head _))) (hsub _ (.tail _ (.tail _ (.head _)))) (hsub _ (.tail _ (.tail _ (.tail _ (.head _))))) (hsub _ (.tail _ (.tail _ (.tail _ (.tail _ (.head _)))))) d1 (hsub _ (.tail _ (.tail _ (.tail _ (.tail _ (.tail _ (.head _))))))) d2 (hsub _ (.tail _ (.tail _ (.tail _ (.tail _ (.tail _ (.tail _ (.head _)))))))) d3 (hsub _ (.tail _ (.tail _ (.tail _ (.tail _ (.tail _ (.tail _ (.tail _ (.head _))))))))) d4 (hsub _ (.tail _ (.tail _ (.tail _ (.tail _ (.tail _ (.tail _ (.tail _ (.tail _ (.head _)))))))))) d5 (hsub _ (.tail _ (.tail _ (.tail _ (.tail _ (.tail _ (.tail _ (.tail _ (.tail _ (.tail _ (.head _))))))))))) d6 (hsub _ (.tail _ (.tail _ (.tail _ (.tail _ (.tail _ (.tail _ (.tail _ (.tail _ (.tail _ (.tail _ (.head _)))))))))))) d7 (hsub _ (.tail _ (.tail _ (.tail _ (.tail _ (.tail _ (.tail _ (.tail _ (.tail _ (.tail _ (.tail _ (.tail _ (.head _))))))))))))) d8 F N hret
  | 3, _ => exact row3 dp un gd a A₀ base h₀ L s Q E B X T XB TB hd hu hC hoff hf.1 hno h0 h1 h2 h3 h4 h5 hk1 hk2 hA hi' hb (hsub _ (.head _)) (hsub _ (.tail _ (.head _))) (hsub _ (.tail _ (.tail _ (.head _)))) (hsub _ (.tail _ (.tail _ (.tail _ (.head _))))) (hsub _ (.tail _ (.tail _ (.tail _ (.tail _ (.head _)))))) d1 (hsub _ (.tail _ (.tail _ (.tail _ (.tail _ (.tail _ (.head _))))))) d2 (hsub _ (.tail _ (.tail _ (.tail _ (.tail _ (.tail _ (.tail _ (.head _)))))))) d3 (hsub _ (.tail _ (.tail _ (.tail _ (.tail _ (.tail _ (.tail _ (.tail _ (.head _))))))))) d4 (hsub _ (.tail _ (.tail _ (.tail _ (.tail _ (.tail _ (.tail _ (.tail _ (.tail _ (.head _)))))))))) d5 (hsub _ (.tail _ (.tail _ (.tail _ (.tail _ (.tail _ (.tail _ (.tail _ (.tail _ (.tail _ (.head _))))))))))) d6 (hsub _ (.tail _ (.tail _ (.tail _ (.tail _ (.tail _ (.tail _ (.tail _ (.tail _ (.tail _ (.tail _ (.head _)))))))))))) d7 (hsub _ (.tail _ (.tail _ (.tail _ (.tail _ (.tail _ (.tail _ (.tail _ (.tail _ (.tail _ (.tail _ (.tail _ (.head _))))))))))))) d8 F N hret
  | 4, _ => exact row4 dp un gd a A₀ base h₀ L s Q E B X T XB TB hd hu hC hoff hf.1 hno h0 h1 h2 h3 h4 h5 hk1 hk2 hA hi' hb (hsub _ (.head _)) (hsub _ (.tail _ (.head _))) (hsub _ (.tail _ (.tail _ (.head _)))) (hsub _ (.tail _ (.tail _ (.tail _ (.head _))))) (hsub _ (.tail _ (.tail _ (.tail _ (.tail _ (.head _)))))) d1 (hsub _ (.tail _ (.tail _ (.tail _ (.tail _ (.tail _ (.head _))))))) d2 (hsub _ (.tail _ (.tail _ (.tail _ (.tail _ (.tail _ (.tail _ (.head _)))))))) d3 (hsub _ (.tail _ (.tail _ (.tail _ (.tail _ (.tail _ (.tail _ (.tail _ (.head _))))))))) d4 (hsub _ (.tail _ (.tail _ (.tail _ (.tail _ (.tail _ (.tail _ (.tail _ (.tail _ (.head _)))))))))) d5 (hsub _ (.tail _ (.tail _ (.tail _ (.tail _ (.tail _ (.tail _ (.tail _ (.tail _ (.tail _ (.head _))))))))))) d6 (hsub _ (.tail _ (.tail _ (.tail _ (.tail _ (.tail _ (.tail _ (.tail _ (.tail _ (.tail _ (.tail _ (.head _)))))))))))) d7 (hsub _ (.tail _ (.tail _ (.tail _ (.tail _ (.tail _ (.tail _ (.tail _ (.tail _ (.tail _ (.tail _ (.tail _ (.head _))))))))))))) d8 F N hret
  | 5, _ => exact row5 dp un gd a A₀ base h₀ L s Q E B X T XB TB hd hu hC hoff hf.1 hno h0 h1 h2 h3 h4 h5 hk1 hk2 hA hi' hb (hsub _ (.head _)) (hsub _ (.tail _ (.head _))) (hsub _ (.tail _ (.tail _ (.head _)))) (hsub _ (.tail _ (.tail _ (.tail _ (.head _))))) (hsub _ (.tail _ (.tail _ (.tail _ (.tail _ (.head _)))))) d1 (hsub _ (.tail _ (.tail _ (.tail _ (.tail _ (.tail _ (.head _))))))) d2 (hsub _ (.tail _ (.tail _ (.tail _ (.tail _ (.tail _ (.tail _ (.head _)))))))) d3 (hsub _ (.tail _ (.tail _ (.tail _ (.tail _ (.tail _ (.tail _ (.tail _ (.head _))))))))) d4 (hsub _ (.tail _ (.tail _ (.tail _ (.tail _ (.tail _ (.tail _ (.tail _ (.tail _ (.head _)))))))))) d5 (hsub _ (.tail _ (.tail _ (.tail _ (.tail _ (.tail _ (.tail _ (.tail _ (.tail _ (.tail _ (.head _))))))))))) d6 (hsub _ (.tail _ (.tail _ (.tail _ (.tail _ (.tail _ (.tail _ (.tail _ (.tail _ (.tail _ (.tail _ (.head _)))))))))))) d7 (hsub _ (.tail _ (.tail _ (.tail _ (.tail _ (.tail _ (.tail _ (.tail _ (.tail _ (.tail _ (.tail _ (.tail _ (.head _))))))))))))) d8 F N hret
  | 6, _ => exact row6 dp un gd a A₀ base h₀ L s Q E B X T XB TB hd hu hC hoff hf.1 hno h0 h1 h2 h3 h4 h5 hk1 hk2 hA hi' hb (hsub _ (.head _)) (hsub _ (.tail _ (.head _))) (hsub _ (.tail _ (.tail _ (.head _)))) (hsub _ (.tail _ (.tail _ (.tail _ (.head _))))) (hsub _ (.tail _ (.tail _ (.tail _ (.tail _ (.head _)))))) d1 (hsub _ (.tail _ (.tail _ (.tail _ (.tail _ (.tail _ (.head _))))))) d2 (hsub _ (.tail _ (.tail _ (.tail _ (.tail _ (.tail _ (.tail _ (.head _)))))))) d3 (hsub _ (.tail _ (.tail _ (.tail _ (.tail _ (.tail _ (.tail _ (.tail _ (.head _))))))))) d4 (hsub _ (.tail _ (.tail _ (.tail _ (.tail _ (.tail _ (.tail _ (.tail _ (.tail _ (.head _)))))))))) d5 (hsub _ (.tail _ (.tail _ (.tail _ (.tail _ (.tail _ (.tail _ (.tail _ (.tail _ (.tail _ (.head _))))))))))) d6 (hsub _ (.tail _ (.tail _ (.tail _ (.tail _ (.tail _ (.tail _ (.tail _ (.tail _ (.tail _ (.tail _ (.head _)))))))))))) d7 (hsub _ (.tail _ (.tail _ (.tail _ (.tail _ (.tail _ (.tail _ (.tail _ (.tail _ (.tail _ (.tail _ (.tail _ (.head _))))))))))))) d8 F N hret
  | 7, _ => exact row7 dp un gd a A₀ base h₀ L s Q E B X T XB TB hd hu hC hoff hf.1 hno h0 h1 h2 h3 h4 h5 hk1 hk2 hA hi' hb (hsub _ (.head _)) (hsub _ (.tail _ (.head _))) (hsub _ (.tail _ (.tail _ (.head _)))) (hsub _ (.tail _ (.tail _ (.tail _ (.head _))))) (hsub _ (.tail _ (.tail _ (.tail _ (.tail _ (.head _)))))) d1 (hsub _ (.tail _ (.tail _ (.tail _ (.tail _ (.tail _ (.head _))))))) d2 (hsub _ (.tail _ (.tail _ (.tail _ (.tail _ (.tail _ (.tail _ (.head _)))))))) d3 (hsub _ (.tail _ (.tail _ (.tail _ (.tail _ (.tail _ (.tail _ (.tail _ (.head _))))))))) d4 (hsub _ (.tail _ (.tail _ (.tail _ (.tail _ (.tail _ (.tail _ (.tail _ (.tail _ (.head _)))))))))) d5 (hsub _ (.tail _ (.tail _ (.tail _ (.tail _ (.tail _ (.tail _ (.tail _ (.tail _ (.tail _ (.head _))))))))))) d6 (hsub _ (.tail _ (.tail _ (.tail _ (.tail _ (.tail _ (.tail _ (.tail _ (.tail _ (.tail _ (.tail _ (.head _)))))))))))) d7 (hsub _ (.tail _ (.tail _ (.tail _ (.tail _ (.tail _ (.tail _ (.tail _ (.tail _ (.tail _ (.tail _ (.tail _ (.head _))))))))))))) d8 F N hret
  | 8, _ => exact row8 dp un gd a A₀ base h₀ L s Q E B X T XB TB hd hu hC hoff hf.1 hno h0 h1 h2 h3 h4 h5 hk1 hk2 hA hi' hb (hsub _ (.head _)) (hsub _ (.tail _ (.head _))) (hsub _ (.tail _ (.tail _ (.head _)))) (hsub _ (.tail _ (.tail _ (.tail _ (.head _))))) (hsub _ (.tail _ (.tail _ (.tail _ (.tail _ (.head _)))))) d1 (hsub _ (.tail _ (.tail _ (.tail _ (.tail _ (.tail _ (.head _))))))) d2 (hsub _ (.tail _ (.tail _ (.tail _ (.tail _ (.tail _ (.tail _ (.head _)))))))) d3 (hsub _ (.tail _ (.tail _ (.tail _ (.tail _ (.tail _ (.tail _ (.tail _ (.head _))))))))) d4 (hsub _ (.tail _ (.tail _ (.tail _ (.tail _ (.tail _ (.tail _ (.tail _ (.tail _ (.head _)))))))))) d5 (hsub _ (.tail _ (.tail _ (.tail _ (.tail _ (.tail _ (.tail _ (.tail _ (.tail _ (.tail _ (.head _))))))))))) d6 (hsub _ (.tail _ (.tail _ (.tail _ (.tail _ (.tail _ (.tail _ (.tail _ (.tail _ (.tail _ (.tail _ (.head _)))))))))))) d7 (hsub _ (.tail _ (.tail _ (.tail _ (.tail _ (.tail _ (.tail _ (.tail _ (.tail _ (.tail _ (.tail _ (.tail _ (.head _))))))))))))) d8 F N hret
  | 9, _ => exact row9 dp un gd a A₀ base h₀ L s Q E B X T XB TB hd hu hC hoff hf.1 hno h0 h1 h2 h3 h4 h5 hk1 hk2 hA hi' hb (hsub _ (.head _)) (hsub _ (.tail _ (.head _))) (hsub _ (.tail _ (.tail _ (.head _)))) (hsub _ (.tail _ (.tail _ (.tail _ (.head _))))) (hsub _ (.tail _ (.tail _ (.tail _ (.tail _ (.head _)))))) d1 (hsub _ (.tail _ (.tail _ (.tail _ (.tail _ (.tail _ (.head _))))))) d2 (hsub _ (.tail _ (.tail _ (.tail _ (.tail _ (.tail _ (.tail _ (.head _)))))))) d3 (hsub _ (.tail _ (.tail _ (.tail _ (.tail _ (.tail _ (.tail _ (.tail _ (.head _))))))))) d4 (hsub _ (.tail _ (.tail _ (.tail _ (.tail _ (.tail _ (.tail _ (.tail _ (.tail _ (.head _)))))))))) d5 (hsub _ (.tail _ (.tail _ (.tail _ (.tail _ (.tail _ (.tail _ (.tail _ (.tail _ (.tail _ (.head _))))))))))) d6 (hsub _ (.tail _ (.tail _ (.tail _ (.tail _ (.tail _ (.tail _ (.tail _ (.tail _ (.tail _ (.tail _ (.head _)))))))))))) d7 (hsub _ (.tail _ (.tail _ (.tail _ (.tail _ (.tail _ (.tail _ (.tail _ (.tail _ (.tail _ (.tail _ (.tail _ (.head _))))))))))))) d8 F N hret
  | 10, _ => exact row10 dp un gd a A₀ base h₀ L s Q E B X T XB TB hd hu hC hoff hf.1 hno h0 h1 h2 h3 h4 h5 hk1 hk2 hA hi' hb (hsub _ (.head _)) (hsub _ (.tail _ (.head _))) (hsub _ (.tail _ (.tail _ (.head _)))) (hsub _ (.tail _ (.tail _ (.tail _ (.head _))))) (hsub _ (.tail _ (.tail _ (.tail _ (.tail _ (.head _)))))) d1 (hsub _ (.tail _ (.tail _ (.tail _ (.tail _ (.tail _ (.head _))))))) d2 (hsub _ (.tail _ (.tail _ (.tail _ (.tail _ (.tail _ (.tail _ (.head _)))))))) d3 (hsub _ (.tail _ (.tail _ (.tail _ (.tail _ (.tail _ (.tail _ (.tail _ (.head _))))))))) d4 (hsub _ (.tail _ (.tail _ (.tail _ (.tail _ (.tail _ (.tail _ (.tail _ (.tail _ (.head _)))))))))) d5 (hsub _ (.tail _ (.tail _ (.tail _ (.tail _ (.tail _ (.tail _ (.tail _ (.tail _ (.tail _ (.head _))))))))))) d6 (hsub _ (.tail _ (.tail _ (.tail _ (.tail _ (.tail _ (.tail _ (.tail _ (.tail _ (.tail _ (.tail _ (.head _)))))))))))) d7 (hsub _ (.tail _ (.tail _ (.tail _ (.tail _ (.tail _ (.tail _ (.tail _ (.tail _ (.tail _ (.tail _ (.tail _ (.head _))))))))))))) d8 F N hret
  | 11, _ => exact row11 dp un gd a A₀ base h₀ L s Q E B X T XB TB hd hu hC hoff hf.1 hno h0 h1 h2 h3 h4 h5 hk1 hk2 hA hi' hb (hsub _ (.head _)) (hsub _ (.tail _ (.head _))) (hsub _ (.tail _ (.tail _ (.head _)))) (hsub _ (.tail _ (.tail _ (.tail _ (.head _))))) (hsub _ (.tail _ (.tail _ (.tail _ (.tail _ (.head _)))))) d1 (hsub _ (.tail _ (.tail _ (.tail _ (.tail _ (.tail _ (.head _))))))) d2 (hsub _ (.tail _ (.tail _ (.tail _ (.tail _ (.tail _ (.tail _ (.head _)))))))) d3 (hsub _ (.tail _ (.tail _ (.tail _ (.tail _ (.tail _ (.tail _ (.tail _ (.head _))))))))) d4 (hsub _ (.tail _ (.tail _ (.tail _ (.tail _ (.tail _ (.tail _ (.tail _ (.tail _ (.head _)))))))))) d5 (hsub _ (.tail _ (.tail _ (.tail _ (.tail _ (.tail _ (.tail _ (.tail _ (.tail _ (.tail _ (.head _))))))))))) d6 (hsub _ (.tail _ (.tail _ (.tail _ (.tail _ (.tail _ (.tail _ (.tail _ (.tail _ (.tail _ (.tail _ (.head _)))))))))))) d7 (hsub _ (.tail _ (.tail _ (.tail _ (.tail _ (.tail _ (.tail _ (.tail _ (.tail _ (.tail _ (.tail _ (.tail _ (.head _))))))))))))) d8 F N hret
  | 12, _ => exact row12 dp un gd a A₀ base h₀ L s Q E B X T XB TB hd hu hC hoff hf.1 hno h0 h1 h2 h3 h4 h5 hk1 hk2 hA hi' hb (hsub _ (.head _)) (hsub _ (.tail _ (.head _))) (hsub _ (.tail _ (.tail _ (.head _)))) (hsub _ (.tail _ (.tail _ (.tail _ (.head _))))) (hsub _ (.tail _ (.tail _ (.tail _ (.tail _ (.head _)))))) d1 (hsub _ (.tail _ (.tail _ (.tail _ (.tail _ (.tail _ (.head _))))))) d2 (hsub _ (.tail _ (.tail _ (.tail _ (.tail _ (.tail _ (.tail _ (.head _)))))))) d3 (hsub _ (.tail _ (.tail _ (.tail _ (.tail _ (.tail _ (.tail _ (.tail _ (.head _))))))))) d4 (hsub _ (.tail _ (.tail _ (.tail _ (.tail _ (.tail _ (.tail _ (.tail _ (.tail _ (.head _)))))))))) d5 (hsub _ (.tail _ (.tail _ (.tail _ (.tail _ (.tail _ (.tail _ (.tail _ (.tail _ (.tail _ (.head _))))))))))) d6 (hsub _ (.tail _ (.tail _ (.tail _ (.tail _ (.tail _ (.tail _ (.tail _ (.tail _ (.tail _ (.tail _ (.head _)))))))))))) d7 (hsub _ (.tail _ (.tail _ (.tail _ (.tail _ (.tail _ (.tail _ (.tail _ (.tail _ (.tail _ (.tail _ (.tail _ (.head _))))))))))))) d8 F N hret
  | 13, _ => exact row13 dp un gd a A₀ base h₀ L s Q E B X T XB TB hd hu hC hoff hf.1 hno h0 h1 h2 h3 h4 h5 hk1 hk2 hA hi' hb (hsub _ (.head _)) (hsub _ (.tail _ (.head _))) (hsub _ (.tail _ (.tail _ (.head _)))) (hsub _ (.tail _ (.tail _ (.tail _ (.head _))))) (hsub _ (.tail _ (.tail _ (.tail _ (.tail _ (.head _)))))) d1 (hsub _ (.tail _ (.tail _ (.tail _ (.tail _ (.tail _ (.head _))))))) d2 (hsub _ (.tail _ (.tail _ (.tail _ (.tail _ (.tail _ (.tail _ (.head _)))))))) d3 (hsub _ (.tail _ (.tail _ (.tail _ (.tail _ (.tail _ (.tail _ (.tail _ (.head _))))))))) d4 (hsub _ (.tail _ (.tail _ (.tail _ (.tail _ (.tail _ (.tail _ (.tail _ (.tail _ (.head _)))))))))) d5 (hsub _ (.tail _ (.tail _ (.tail _ (.tail _ (.tail _ (.tail _ (.tail _ (.tail _ (.tail _ (.head _))))))))))) d6 (hsub _ (.tail _ (.tail _ (.tail _ (.tail _ (.tail _ (.tail _ (.tail _ (.tail _ (.tail _ (.tail _ (.head _)))))))))))) d7 (hsub _ (.tail _ (.tail _ (.tail _ (.tail _ (.tail _ (.tail _ (.tail _ (.tail _ (.tail _ (.tail _ (.tail _ (.head _))))))))))))) d8 F N hret
  | n + 14, h => exact absurd h (by omega)
theorem rowChain : ∀ n i, n + i = 14 → ∀ (ps : Array Value) (led : List (Addr × Obj)) (pos' : Pos) (dp un : Nat) (gd : Option (List Code)) (a : Addr) (A₀ : Around) (base h₀ : Heap) (L : Addr) (s : Shared) (Q : List Value → Shared → Prop) (E : Value → Shared → Prop) (B : Below A₀ base [] h₀) (X : (hd.heap_1 w.params).In h₀) (T : Top p loose mean mg mb h₀) (XB : (hd.heap_1 w.params).In base) (TB : Top p loose mean mg mb base) (hd : dp + 50 < recursionLimit) (hu : un + 900 < cLine) (hC : CodeHd h₀ 408 404) (h0 : 0 ≤ pos) (h1 : pos < 48) (h2 : 0 ≤ v) (h3 : v < 24) (h4 : 0 ≤ off) (h5 : off < 24) (hk1 : 0 ≤ kind) (hk2 : kind < 9) (hA : DefOk dA kind off) (hi : IntsAre ws (ocs b)) (hb : b.size ≤ 64)
   (d1 : o1.data = .cell (some (.ref D))) (d2 : o2.data = .cell (some (.ref (clsK kind.toNat)))) (d3 : o3.data = .cell (some (.int kind tki))) (d4 : o4.data = .cell (some (.int off to))) (d5 : o5.data = .cell (some (.int pos tp))) (d6 : o6.data = .cell (some (.ref x))) (d7 : o7.data = .cell (some (.int v tv))) (d8 : o8.data = .cell (some (dA.val td)))
   (hoff : ∀ q ∈ led, q.1 ≠ 404) (hf : FreshT i ps) (hsub : ∀ q ∈ lawLed x dx D lo c1 c2 c3 c4 c5 c6 c7 c8 o1 o2 o3 o4 o5 o6 o7 o8 b ws co pos tp, q ∈ led)
   (F : Fr h₀ L s.heap (fun z => if z = Str.ofString "many" then some ((vlen b (pos + off)).val ui) else if z = Str.ofString "first" then some ((vec b (pos + off)).val ti) else if z = Str.ofString "octets" then some (.ref lo) else m z))
   (N : News h₀ L s.heap ((404, tabObj ps) :: led))
   (hret : ∀ (h' : Heap) (tk' : Nat) (vs : List Value) (led' : List (Addr × Obj)), Fr h₀ L h' (fun z => if z = Str.ofString "many" then some ((vlen b (pos + off)).val ui) else if z = Str.ofString "first" then some ((vec b (pos + off)).val ti) else if z = Str.ofString "octets" then some (.ref lo) else m z) →
     News h₀ L h' led' → (∀ q ∈ led, q ∈ led') → (∃ ps', (404, tabObj ps') ∈ led') → vs.length = n →
     (∀ j < n, ∃ r t u, vs[j]? = some (.ref r) ∧ (r, vecTup (rowP b pos v off kind dA (i + j)).1 (rowP b pos v off kind dA (i + j)).2 t u) ∈ led') → Q vs { s with heap := h', toks := tk' }),
   wpAny (model PySem.Challenge.rw_ke0006_01.row.prog w) (ktrTop dp un gd (Str.ofString "law") lawScope L a (.ref 408) [(Str.ofString "without", c8), (Str.ofString "v", c7), (Str.ofString "table", c6), (Str.ofString "pos", c5), (Str.ofString "off", c4), (Str.ofString "kind", c3), (Str.ofString "flags", c2), (Str.ofString "data", c1)] []) (spliced (backTo pos' (starEach (rowExprs.drop i) (envX (Str.ofString "law") lawScope L a (.ref 408) [(Str.ofString "without", c8), (Str.ofString "v", c7), (Str.ofString "table", c6), (Str.ofString "pos", c5), (Str.ofString "off", c4), (Str.ofString "kind", c3), (Str.ofString "flags", c2), (Str.ofString "data", c1)])))) Q E s := by
  intro n
  induction n with
  | zero =>
    intro i hn ps led pos' dp un gd a A₀ base h₀ L s Q E B X T XB TB hd hu hC h0 h1 h2 h3 h4 h5 hk1 hk2 hA hi' hb d1 d2 d3 d4 d5 d6 d7 d8 hoff hf hsub F N hret
    have e : rowExprs.drop i = [] := List.drop_eq_nil_of_le (by rw [rowExprs_len]; omega)
    rw [e]
    exact args_nil (hret s.heap s.toks [] _ F N (fun q hq => .tail _ hq) ⟨ps, .head _⟩ rfl (fun j hj => absurd hj (by omega)))
  | succ n ih =>
    intro i hn ps led pos' dp un gd a A₀ base h₀ L s Q E B X T XB TB hd hu hC h0 h1 h2 h3 h4 h5 hk1 hk2 hA hi' hb d1 d2 d3 d4 d5 d6 d7 d8 hoff hf hsub F N hret
    have hi : i < 14 := by omega
    rw [rowE_drop hi]
    refine args_cons ?_ (star_tup (rowE_tup i hi) _ _)
    refine rowAll i hi ps led dp un gd a A₀ base h₀ L s _ E B X T XB TB hd hu hC h0 h1 h2 h3 h4 h5 hk1 hk2 hA hi' hb d1 d2 d3 d4 d5 d6 d7 d8 hoff hf hsub F N ?_
    intro h' tk' r c' t u F' N' hr
    refine ih (i + 1) (by omega) _ _ pos' dp un gd a A₀ base h₀ L _ _ E B X T XB TB hd hu hC h0 h1 h2 h3 h4 h5 hk1 hk2 hA hi' hb d1 d2 d3 d4 d5 d6 d7 d8 ?_ (hf.step hi) (fun q hq => .tail _ (hsub q hq)) F' N' ?_
    · intro q hq
      rcases List.mem_cons.mp hq with rfl | hq
      · exact hr
      · exact hoff q hq
    · intro h2' tk2 vs led' F2 N2 s2 hps hl hj
      refine hret h2' tk2 _ led' F2 N2 (fun q hq => s2 q (.tail _ hq)) hps (by rw [List.length_cons, hl]) fun j hj' => ?_
      cases j with
      | zero => exact ⟨r, t, u, rfl, s2 _ (.head _)⟩
      | succ j =>
        obtain ⟨r', t', u', e1, e2⟩ := hj j (by omega)
        refine ⟨r', t', u', e1, ?_⟩
        rwa [show i + (j + 1) = i + 1 + j by omega]
end
theorem rowsList {w : World} {mean : ExcName → Option Value} {mg mb : Str → Option Value} {p : Program} {loose : List Str} {c1 c2 c3 c4 c5 c6 c7 c8 : Addr} {o1 o2 o3 o4 o5 o6 o7 o8 : Obj} {x dx D lo : Addr} {b : Array UInt8} {ws : List Value} {co : Nat} {pos v off kind : Int} {tp tv to tki td ti ui : Tok} {dA : Ans} {led : List (Addr × Obj)} {m : Str → Option Value} (pos' : Pos)
   (dp un : Nat) (gd : Option (List Code)) (a : Addr) (A₀ : Around) (base h₀ : Heap) (L : Addr) (s : Shared) (Q : Value → Shared → Prop) (E : Value → Shared → Prop) (B : Below A₀ base [] h₀) (X : (hd.heap_1 w.params).In h₀) (T : Top p loose mean mg mb h₀) (XB : (hd.heap_1 w.params).In base) (TB : Top p loose mean mg mb base) (hd : dp + 50 < recursionLimit) (hu : un + 900 < cLine) (hC : CodeHd h₀ 408 404) (h0 : 0 ≤ pos) (h1 : pos < 48) (h2 : 0 ≤ v) (h3 : v < 24) (h4 : 0 ≤ off) (h5 : off < 24) (hk1 : 0 ≤ kind) (hk2 : kind < 9) (hA : DefOk dA kind off) (hi : IntsAre ws (ocs b)) (hb : b.size ≤ 64)
   (d1 : o1.data = .cell (some (.ref D))) (d2 : o2.data = .cell (some (.ref (clsK kind.toNat)))) (d3 : o3.data = .cell (some (.int kind tki))) (d4 : o4.data = .cell (some (.int off to))) (d5 : o5.data = .cell (some (.int pos tp))) (d6 : o6.data = .cell (some (.ref x))) (d7 : o7.data = .cell (some (.int v tv))) (d8 : o8.data = .cell (some (dA.val td)))
   (hoff : ∀ q ∈ led, q.1 ≠ 404) (hsub : ∀ q ∈ lawLed x dx D lo c1 c2 c3 c4 c5 c6 c7 c8 o1 o2 o3 o4 o5 o6 o7 o8 b ws co pos tp, q ∈ led)
   (F : Fr h₀ L s.heap (fun z => if z = Str.ofString "many" then some ((vlen b (pos + off)).val ui) else if z = Str.ofString "first" then some ((vec b (pos + off)).val ti) else if z = Str.ofString "octets" then some (.ref lo) else m z))
   (N : News h₀ L s.heap ((404, tabObj #[]) :: led))
   (hret : ∀ (h' : Heap) (tk' : Nat) (l : Addr) (rs : List Value) (led' : List (Addr × Obj)), Fr h₀ L h' (fun z => if z = Str.ofString "many" then some ((vlen b (pos + off)).val ui) else if z = Str.ofString "first" then some ((vec b (pos + off)).val ti) else if z = Str.ofString "octets" then some (.ref lo) else m z) →
     News h₀ L h' ((l, listOf rs.toArray 0) :: led') → (∀ q ∈ led, q ∈ led') → (∃ ps', (404, tabObj ps') ∈ led') → RowsAre b pos v off kind dA rs led' → Q (.ref l) { s with heap := h', toks := tk' }) :
   wpAny (model PySem.Challenge.rw_ke0006_01.row.prog w) (ktrTop dp un gd (Str.ofString "law") lawScope L a (.ref 408) [(Str.ofString "without", c8), (Str.ofString "v", c7), (Str.ofString "table", c6), (Str.ofString "pos", c5), (Str.ofString "off", c4), (Str.ofString "kind", c3), (Str.ofString "flags", c2), (Str.ofString "data", c1)] []) (eval (.List rowExprs pos') (envX (Str.ofString "law") lawScope L a (.ref 408) [(Str.ofString "without", c8), (Str.ofString "v", c7), (Str.ofString "table", c6), (Str.ofString "pos", c5), (Str.ofString "off", c4), (Str.ofString "kind", c3), (Str.ofString "flags", c2), (Str.ofString "data", c1)])) Q E s := by
  refine List_ ?_
  refine rowChain 14 0 rfl #[] led pos' dp un gd a A₀ base h₀ L s _ E B X T XB TB hd hu hC h0 h1 h2 h3 h4 h5 hk1 hk2 hA hi hb d1 d2 d3 d4 d5 d6 d7 d8 hoff FreshT.nil hsub F N ?_
  intro h' tk' vs led' F' N' hs hps hl hj
  refine newList_K F' N' (fun l h2 F2 N2 _ => ?_) (by rw [hl]; decide)
  exact hret h2 tk' l vs led' F2 N2 hs hps ⟨hl, fun k hk => by have z := hj k hk; rwa [Nat.zero_add] at z⟩
theorem kw89 : True := by
  w_top off
  k_with "m eval List" => (k_here; (with_reducible show wpAny _ _ (eval (.List _ _) _) _ _ _); k_dflt (refine' rowsList _ _ _ _ _ _ _ _ _ _ _ _ B X T XB TB hd hu hC h0 h1 h2 h3 h4 h5 hk1 hk2 hA hi hb d1 d2 d3 d4 d5 d6 d7 d8 hoff hsub ?zzkF ?zzkN ?_); (case zzkF => k_asm); (case zzkN => k_asm); (intro h' tk' l rs led' F' N' hs' hps' hr'))
  trivial
theorem pieceG {w : World} {mean : ExcName → Option Value} {mg mb : Str → Option Value} {p : Program} {loose : List Str} {c1 c2 c3 c4 c5 c6 c7 c8 : Addr} {o1 o2 o3 o4 o5 o6 o7 o8 : Obj} {x dx D lo : Addr} {b : Array UInt8} {ws : List Value} {co : Nat} {pos v off kind : Int} {tp tv to tki td ti ui : Tok} {dA : Ans} {led : List (Addr × Obj)} {m : Str → Option Value}
   (dp un : Nat) (gd : Option (List Code)) (a : Addr) (A₀ : Around) (base h₀ : Heap) (L : Addr) (s : Shared) (Q : Flow → Shared → Prop) (E : Value → Shared → Prop) (B : Below A₀ base [] h₀) (X : (hd.heap_1 w.params).In h₀) (T : Top p loose mean mg mb h₀) (XB : (hd.heap_1 w.params).In base) (TB : Top p loose mean mg mb base) (hd : dp + 50 < recursionLimit) (hu : un + 900 < cLine) (hC : CodeHd h₀ 408 404) (h0 : 0 ≤ pos) (h1 : pos < 48) (h2 : 0 ≤ v) (h3 : v < 24) (h4 : 0 ≤ off) (h5 : off < 24) (hk1 : 0 ≤ kind) (hk2 : kind < 9) (hA : DefOk dA kind off) (hi : IntsAre ws (ocs b)) (hb : b.size ≤ 64)
   (d1 : o1.data = .cell (some (.ref D))) (d2 : o2.data = .cell (some (.ref (clsK kind.toNat)))) (d3 : o3.data = .cell (some (.int kind tki))) (d4 : o4.data = .cell (some (.int off to))) (d5 : o5.data = .cell (some (.int pos tp))) (d6 : o6.data = .cell (some (.ref x))) (d7 : o7.data = .cell (some (.int v tv))) (d8 : o8.data = .cell (some (dA.val td)))
   (hoff : ∀ q ∈ led, q.1 ≠ 404) (hsub : ∀ q ∈ lawLed x dx D lo c1 c2 c3 c4 c5 c6 c7 c8 o1 o2 o3 o4 o5 o6 o7 o8 b ws co pos tp, q ∈ led)
   (F : Fr h₀ L s.heap (fun z => if z = Str.ofString "many" then some ((vlen b (pos + off)).val ui) else if z = Str.ofString "first" then some ((vec b (pos + off)).val ti) else if z = Str.ofString "octets" then some (.ref lo) else m z))
   (N : News h₀ L s.heap ((404, tabObj #[]) :: led))
   (hret : ∀ (h' : Heap) (tk' : Nat) (l : Addr) (rs : List Value) (led' : List (Addr × Obj)), Fr h₀ L h' (fun z => if z = Str.ofString "rows" then some (.ref l) else if z = Str.ofString "many" then some ((vlen b (pos + off)).val ui) else if z = Str.ofString "first" then some ((vec b (pos + off)).val ti) else if z = Str.ofString "octets" then some (.ref lo) else m z) →
     News h₀ L h' ((l, listOf rs.toArray 0) :: led') → (∀ q ∈ led, q ∈ led') → (∃ ps', (404, tabObj ps') ∈ led') → RowsAre b pos v off kind dA rs led' → Q .next { s with heap := h', toks := tk' }) :
   wpAny (model PySem.Challenge.rw_ke0006_01.row.prog w) (ktrTop dp un gd (Str.ofString "law") lawScope L a (.ref 408) [(Str.ofString "without", c8), (Str.ofString "v", c7), (Str.ofString "table", c6), (Str.ofString "pos", c5), (Str.ofString "off", c4), (Str.ofString "kind", c3), (Str.ofString "flags", c2), (Str.ofString "data", c1)] []) (execs lawG (envX (Str.ofString "law") lawScope L a (.ref 408) [(Str.ofString "without", c8), (Str.ofString "v", c7), (Str.ofString "table", c6), (Str.ofString "pos", c5), (Str.ofString "off", c4), (Str.ofString "kind", c3), (Str.ofString "flags", c2), (Str.ofString "data", c1)])) Q E s := by
  revert X; k_fill; intro X
  show wpAny _ _ (execs [.Assign [.Name _ _] (.List rowExprs _) _] _) _ _ _
  k_steps
  all_goals (first | exact hret _ _ _ _ _ (by assumption) (by assumption) (by assumption) (by assumption) (by assumption))
end
theorem kw90 : True := by
  w_top off
  k_with_none
  k_with "k_ne" => ((try dsimp only); with_reducible first | exact Nat.ne_of_lt (by k_extra "mine lt") | exact Nat.ne_of_gt (by k_extra "mine lt") | fail)
  k_with "mine lt" => (first | assumption | (refine Nat.lt_trans (by assumption) ?_; k_extra "mine lt"))
  trivial
section
namespace FF
theorem bind_bai (a : Value) : Builtin.Bytes.bindOptional "bytearray.__init__" "bytearray" ["source", "encoding", "errors"] [a] [] = pure [some a, none, none] := by kernel_rfl
end FF
section
variable {prog : Program} {w : World} {A : Around} {E : Value → Shared → Prop} {s : Shared} {D lo : Addr} {vs : List Value} {ns : List Int} {co : Nat}
theorem good_take {vs : List Value} {ns : List Int} {f : Value → Bool} (hi : IntsAre vs ns) (hr : ∀ n ∈ ns, 0 ≤ n ∧ n < 256) (hf : ∀ i t, f (.int i t) = (decide (0 ≤ i) && decide (i < 256))) : vs.takeWhile f = vs := by
  induction hi with
  | nil => rfl
  | cons n t h ih =>
    obtain ⟨a, b⟩ := hr n (.head _)
    rw [List.takeWhile_cons_of_pos (by rw [hf]; simp [a, b]), ih fun m hm => hr m (.tail _ hm)]
theorem good_map {vs : List Value} {ns : List Int} {q : Value → Option UInt8} (hi : IntsAre vs ns) (hq : ∀ i t, q (.int i t) = some i.toNat.toUInt8) : vs.filterMap q = ns.map fun n => n.toNat.toUInt8 := by
  induction hi with
  | nil => rfl
  | cons n t h ih => rw [List.filterMap_cons_some (hq n t), ih, List.map_cons]
theorem wpC_ite_f {α : Type} {M : Model} {c : Bool} {a b : Sem α} {Q : α → Shared → Prop} (hc : c = false) (h : wpC M A b Q E s) : wpC M A (if c = true then a else b) Q E s := by subst hc; exact h
theorem ba_init_C {Q : Fin → Shared → Prop} (hd : s.heap.get? D = some (baObj #[])) (hl : s.heap.get? lo = some (listOf vs.toArray co)) (hi : IntsAre vs ns) (hr : ∀ n ∈ ns, 0 ≤ n ∧ n < 256) (hz : ns.length ≤ 64) 
   (h : ∀ h', h'.get? D = some (baObj (byteArr ns)) → (∀ b o, b ≠ D → s.heap.get? b = some o → h'.get? b = some o) → Q (.done (.ret .none)) { s with heap := h' }) :
   wpC (model prog w) A (Builtin.«bytearray.__init__» ⟨[.ref D, .ref lo], []⟩) Q E s := by
  obtain ⟨hp, g, dr, tk, os⟩ := s
  dsimp only at hd hl
  have L1 := looks_baType (M := model prog w) hd
  have L2 := looks_baSpecial (M := model prog w) hd FF.rel_ba
  have e3 : "bytearray.__release_buffer__".endsWith ("." ++ "__release_buffer__") = true := by decide +kernel
  have e4 : "bytearray.__release_buffer__".dropRight ("__release_buffer__".length + 1) = "bytearray" := by decide +kernel
  have L3 : Looks (model prog w) hp (isInstance (.ref D) (.type "bytearray")) true := L1.andThen (Looks.of_pure FF.sub_ba)
  unfold Builtin.«bytearray.__init__»
  dsimp only
  refine wpC_bindA ?_
  unfold Builtin.Bytes.ownRelease Builtin.Bytes.slotIsOwn
  repeat (first | simp only [e3, e4, Bool.not_true, Bool.false_eq_true, if_false] | lk)
  refine wpC_bindA (wpAny_of_eq (FF.bind_bai _) ?_)
  dsimp only
  refine wpC_bindA (wpAny_of_eq (a := ()) rfl ?_)
  refine wpC_bindA (wpAny_of_eq (a := ()) rfl ?_)
  refine wpC_bind ?_
  show wpC _ _ (Builtin.Bytes.exported (.ref D) >>= fun b => bif b then pure b else (Builtin.Bytes.exportsOf (.ref D) >>= fun n => pure (decide (n > 0)))) _ _ _
  refine wpC_bind (wpC_exported ?_)
  refine wpC_of ?_
  show wpAny _ _ (Builtin.Bytes.exportsOf (.ref D) >>= fun n => pure (decide (n > 0))) _ _ _
  unfold Builtin.Bytes.exportsOf
  refine wpAny_bind (wpAny_bind (wpAny_load hd ?_))
  refine wpAny_pure (wpAny_pure ?_)
  refine wpC_of ?_
  show wpAny _ _ (if (decide (0 > 0)) = true then _ else _) _ _ _
  rw [if_neg (by decide)]
  refine wpAny_bind ?_
  unfold Builtin.Bytes.write updateBytearray
  refine wpAny_bind (wpAny_load hd ?_)
  refine wpAny_bind (wpAny_update hd ?_)
  have hd2 : (hp.update D (Obj.mapBytearray fun _ => #[])).get? D = some (baObj #[]) := Heap.get?_update_self (Obj.mapBytearray fun _ => #[]) hd rfl
  have hne : D ≠ lo := fun e => by
    subst e
    rw [hl] at hd
    have h1 := congrArg Obj.cls (Option.some.inj hd)
    injection h1 with h2
    exact absurd h2 (by decide)
  have hl2 : (hp.update D (Obj.mapBytearray fun _ => #[])).get? lo = some (listOf vs.toArray co) := (Heap.get?_update_other _ _ hne).trans hl
  refine wpAny_lookBehind hd2 (by decide) ?_
  dsimp only at *
  generalize hh : hp.update D (Obj.mapBytearray fun _ => #[]) = H at *
  have K1 : Looks (model prog w) H (typeOf (.ref lo)) (.type "list") := (Looks.ld hl2).andThen .now
  have K2 : Looks (model prog w) H (specialOf (.ref lo) (Str.ofString "__index__")) none := K1.andThen (Looks.of_pure F.bm_no_index)
  have K3 : Looks (model prog w) H (specialOf (.ref lo) (Str.ofString "__buffer__")) none := K1.andThen (Looks.of_pure F.bm_no_buffer)
  unfold Builtin.Bytes.buffer?
  repeat lk
  rw [good_take hi hr, good_map hi]
  rw [show vs.toArray[vs.length]? = none from by simp]
  · repeat lk
    refine wpAny_update hd2 ?_
    have hd3 : (H.update D (Obj.mapBytearray fun _ => (ns.map fun n => n.toNat.toUInt8).toArray)).get? D = some (baObj (byteArr ns)) := Heap.get?_update_self (Obj.mapBytearray fun _ => (ns.map fun n => n.toNat.toUInt8).toArray) hd2 rfl
    refine wpAny_lookBehind hd3 ?_ ?_
    · show (if (byteArr ns).size > sizeLine then some "bytearray:memory" else none) = none
      rw [if_neg]
      rw [byteArr_size, sizeLine_eq]
      omega
    · repeat lk
      refine h _ hd3 fun b o hb e => ?_
      rw [Heap.get?_update_other _ _ hb.symm, ← hh, Heap.get?_update_other _ _ hb.symm]
      exact e
  · intro _ _; rfl
  · intro _ _; rfl
end
end
section
namespace FF
theorem ba_mro : mroOf (.type "bytearray") = pure [.type "bytearray", .type "object"] := by rw [mroOf_type]; kernel_rfl
theorem ba_lookup_new : typeLookup (.type "bytearray") "__new__" = pure (some (.builtin "bytearray.__new__")) := by rw [typeLookup_type, builtinLookup_eq_fast]; kernel_rfl
theorem ba_slot_init : Slot "bytearray" "__init__" "bytearray.__init__" :=
  .of (owner := "bytearray") (n := "__init__") (by rw [typeLookup_type, builtinLookup_eq_fast]; kernel_rfl) (by decide +kernel) (by decide +kernel) (by decide +kernel)
    (by first | exact .inl (by decide +kernel) | exact .inr (by decide +kernel)) (by rw [isSubtype_type]; kernel_rfl)
theorem ba_called : TypeCalled "bytearray" "bytearray.__new__" "bytearray.__init__" :=
  ⟨by decide +kernel, by decide +kernel, ⟨_, _, ba_mro⟩, madeBy_type ba_mro ba_lookup_new (by decide +kernel), by decide +kernel, by rw [isSubtype_type]; kernel_rfl, ba_slot_init⟩
theorem ba_typeCall (a : Value) : checkTypeCall "bytearray" ⟨[a], []⟩ = pure () := by kernel_rfl
theorem ba_newCall (a : Value) : checkBuiltinCall "bytearray.__new__" ⟨[.type "bytearray", a], []⟩ = pure () := by kernel_rfl
theorem ba_plain_new : plainId "bytearray.__new__" = true := by decide +kernel
theorem ba_plain_init : plainId "bytearray.__init__" = true := by decide +kernel
theorem ba_entry_new : entryFor table "bytearray.__new__" = some Builtin.«list.__new__» := Mine.alias_tree (id' := "list.__new__") (by kernel_rfl) (by decide +kernel) (by rw [PySem.W.S.canonicalZ_eq]; decide +kernel) (by kernel_rfl)
theorem ba_entry_init : entryFor table "bytearray.__init__" = some Builtin.«bytearray.__init__» := entryFor_of_tree (by kernel_rfl)
theorem ba_argsInit (a b : Value) : argsOk "bytearray.__init__" ⟨[a, b], []⟩ := by unfold argsOk; rw [PySem.W.S.signatureZ_eq]; kernel_rfl
end FF
theorem owner_ba_new : ("bytearray.__new__".splitOn ".__new__").headD "" = "bytearray" := by simp +decide [String.splitOn, String.splitOnAux]
section
variable {prog : Program} {w : World} {A : Around} {E : Value → Shared → Prop} {s : Shared} {R : Result → Shared → Prop}
theorem code_ba_new (a : Value) {Q₁ : Value → Shared → Prop}
    (h : Q₁ (.ref s.heap.objs.size) { s with heap := s.heap.push { cls := .type "bytearray", data := .bytearray #[] } }) :
    codeAny (model prog w) A (.call (.builtin "bytearray.__new__") ⟨[.type "bytearray", a], []⟩) (wants Q₁ E) s := by
  refine codeAny_of_tree ?_
  show wpAny _ A.in1 (do checkBuiltinCall "bytearray.__new__" ⟨[.type "bytearray", a], []⟩; again (.builtin "bytearray.__new__" ⟨[.type "bytearray", a], []⟩)) _ _ s
  refine wpAny_bind (wpAny_of_eq (FF.ba_newCall a) (wpAny_pure ⟨plainId_quiet FF.ba_plain_new _, codeAny_builtin_stack FF.ba_entry_new rfl fun p st => ?_⟩))
  rw [Around.under_plainId FF.ba_plain_new _]
  have hsub := FF.sub_ba
  have hown := owner_ba_new
  obtain ⟨hp, g, d, tk, os⟩ := s
  simp only [hown]
  wp_walk
  exact h
theorem codeC_builtin {id : String} {args : Args} {b : Builtin} (hb : entryFor table id = some b) (hf : holders.contains id = false)
    (h : wpC (model prog w) (A.under (.builtin id args)) (b args)
      (fun fin s' => match fin with | .done f => R (.ok f) s' | .again c' => c'.quiet = true ∧ codeC (model prog w) A c' R s') (fun e s' => R (.error e) s') s) :
    codeC (model prog w) A (.builtin id args) R s := by
  refine codeC_of_tree (by show (!holders.contains id) = true; rw [hf]; rfl) ?_
  show wpC _ _ (match entryFor table id with | some b => b args | none => unsupported ((withoutEnding? id "#data").getD id)) _ _ s
  rw [hb]; exact h
theorem wpC_ite_false {α : Type} {M : Model} {c : Prop} [Decidable c] {a b : Sem α} {Q : α → Shared → Prop} (hc : ¬ c) (h : wpC M A b Q E s) : wpC M A (if c then a else b) Q E s := by rw [if_neg hc]; exact h
theorem call_ba_C {lo : Addr} {vs : List Value} {ns : List Int} {co : Nat} {Q : Value → Shared → Prop} (hl : s.heap.get? lo = some (listOf vs.toArray co)) (hi : IntsAre vs ns) (hr0 : ∀ n ∈ ns, 0 ≤ n ∧ n < 256) (hz : ns.length ≤ 64)
    (hQ : ∀ h', h'.get? s.heap.objs.size = some (baObj (byteArr ns)) → (∀ b o, s.heap.get? b = some o → h'.get? b = some o) → Q (.ref s.heap.objs.size) { s with heap := h' }) :
    wpC (model prog w) A (call (.type "bytearray") [.ref lo]) Q E s := by
  have ft := FF.ba_called
  obtain ⟨c, tl, hmro⟩ := ft.mro
  have hmade := ft.made
  have hsub := ft.sub
  refine wpC_call (codeC_of_tree rfl ?_)
  show wpC _ _ (callAny (.type "bytearray") _) _ _ _
  refine wpC_pure ⟨Code.quiet_builtin _ (by decide +kernel), codeC_builtin F.entry_type_call (by decide) ?_⟩
  rw [Around.under_plain (weight_type_call_type "bytearray" [.ref lo] []) rfl]
  have h1 := ft.notType
  have h2 := ft.canCreate
  have h3 := FF.ba_typeCall (.ref lo)
  unfold Builtin.«type.__call__»
  dsimp only
  refine wpC_ite_false (by rw [h1]; exact Bool.false_ne_true) ?_
  refine wpC_ite_false (by rw [h2]; exact Bool.false_ne_true) ?_
  refine wpC_bindA (wpAny_of_eq h3 ?_)
  refine wpC_bindA (wpAny_of_eq hmro ?_)
  refine wpC_ite_false (by simp) ?_
  refine wpC_bindA (wpAny_of_eq hmade ?_)
  dsimp only
  refine wpC_bindA (wpAny_pure ?_)
  have hnew : codeAny (model prog w) A.in1 (.call (.builtin "bytearray.__new__") ⟨[.type "bytearray", .ref lo], []⟩) (wants (fun v s' => v = .ref s.heap.objs.size ∧ s' = { s with heap := s.heap.push { cls := .type "bytearray", data := .bytearray #[] } }) (fun _ _ => False)) s := code_ba_new _ ⟨rfl, rfl⟩
  refine wpC_bindA (wpAny_holding (wpAny_call (codeAny_mono hnew fun r s₁ hr => ?_)))
  cases r with
  | error e => exact False.elim hr
  | ok fl =>
    cases fl with
    | ret obj =>
      obtain ⟨rfl, rfl⟩ := hr
      have hD : (s.heap.push { cls := .type "bytearray", data := .bytearray #[] }).get? s.heap.objs.size = some (baObj #[]) := Heap.get?_push_size _ rfl
      have hT : Shared.TypeIs { s with heap := s.heap.push { cls := .type "bytearray", data := .bytearray #[] } } (.ref s.heap.objs.size) "bytearray" := ⟨_, hD, rfl⟩
      dsimp only
      refine wpC_bindA (wpAny_isInstance hT hsub ?_)
      refine wpC_ite_false (by simp) ?_
      refine wpC_bind (wpC_holding ?_)
      unfold callSpecial?
      refine wpC_bindA (wpAny_specialOf hT ft.init.lookup ?_)
      dsimp only
      refine wpC_holding ?_
      refine wpC_bindA (wpAny_of_eq (ft.init.bind _) ?_)
      refine wpC_bind (wpC_call (codeC_of_tree rfl ?_))
      show wpC _ A.in1.in1 (do checkBuiltinCall "bytearray.__init__" ⟨[.ref s.heap.objs.size, .ref lo], []⟩; again (.builtin "bytearray.__init__" ⟨[.ref s.heap.objs.size, .ref lo], []⟩)) _ _ _
      refine wpC_bindA (ft.init.check _ _ _ _ _ _ _ _ hT (FF.ba_argsInit _ _) (wpC_pure ⟨plainId_quiet FF.ba_plain_init _, codeC_builtin FF.ba_entry_init (by decide) ?_⟩))
      rw [Around.under_plainId FF.ba_plain_init _]
      refine ba_init_C hD (Heap.get?_push_of_some _ hl) hi hr0 hz fun h' hD' hk' => ?_
      refine wpC_pure ?_
      dsimp only
      refine wpC_ite_false (by simp) ?_
      refine wpC_of ?_
      refine wpAny_pure ?_
      exact hQ h' hD' fun b o e => hk' b o (Nat.ne_of_lt (Heap.lt_size e)) (Heap.get?_push_of_some _ e)
    | _ => exact hr.elim
end
end
section
theorem callWith_type_C {M : Model} {A : Around} {E : Value → Shared → Prop} {s : Shared} {pos : Pos} {T : String} {args : List (Bool × Sem Value)} {Q : Value → Shared → Prop} (hplain : args.any (·.1) = false)
    (h : wpAny M A (evalArgs (.type T) true args []) (fun a s₁ => wpC M A (call (.type T) ([] ++ a.pos) a.kw) Q E s₁) E s) :
    wpC M A (callWith pos (.type T) [] args []) Q E s := by
  unfold callWith
  refine wpC_bindA (wpAny_holding (wpAny_mono h (fun a s₁ h₁ => ?_) fun _ _ x => x))
  refine wpC_bindA (wpAny_standAt ?_)
  simp only [hplain, List.any_nil, Bool.or_false]
  refine wpC_bindA (wpAny_pure ?_)
  exact wpC_bind (wpC_mono h₁ (fun r s₂ hr => wpC_of (wpAny_bind (wpAny_holding (wpAny_point (wpAny_pure hr))))) fun _ _ x => x)
theorem ocs_byteArr {ns : List Int} (h : ∀ n ∈ ns, 0 ≤ n ∧ n < 256) : ocs (byteArr ns) = ns := by
  unfold ocs byteArr
  simp only [List.map_map]
  refine (List.map_congr_left (g := id) fun n hn => ?_).trans (List.map_id ns)
  obtain ⟨a, b⟩ := h n hn
  simp only [Function.comp, id]
  have e : n.toNat % 256 = n.toNat := Nat.mod_eq_of_lt (by omega)
  have : n.toNat.toUInt8.toNat = n.toNat := by
    rw [Nat.toUInt8, UInt8.toNat_ofNat', e]
  rw [this]
  omega
theorem boot_ba : bootBuiltins "bytearray" = some (.type "bytearray") := by decide +kernel
theorem pieceD {w : World} {mean : ExcName → Option Value} {mg mb : Str → Option Value} {p : Program} {loose : List Str} {c1 c2 c3 c4 c5 c6 c7 c8 : Addr} {lo : Addr} {ws : List Value} {co : Nat} {os : List Int} {m : Str → Option Value} {news : List (Addr × Obj)} {g : Obj → List (Addr × Obj)} {o1 : Obj}
   (dp un : Nat) (gd : Option (List Code)) (a : Addr) (A₀ : Around) (base h₀ : Heap) (L : Addr) (s : Shared) (Q : Flow → Shared → Prop) (E : Value → Shared → Prop) (B : Below A₀ base [] h₀) (X : (hd.heap_1 w.params).In h₀) (T : Top p loose mean mg mb h₀) (XB : (hd.heap_1 w.params).In base) (TB : Top p loose mean mg mb base) (hd : dp + 50 < recursionLimit) (hu : un + 900 < cLine) (hw : Octs ws os) (hos : os.length ≤ 64)
   (F : Fr h₀ L s.heap (fun z => if z = Str.ofString "octets" then some (.ref lo) else m z))
   (N : News h₀ L s.heap news) (hm : (lo, listOf ws.toArray co) ∈ news) (U : UpdF c1 o1 news g) (d1 : o1.data = .cell none)
   (hret : ∀ (h' : Heap) (tk' : Nat) (D : Addr) (o' : Obj) (b : Array UInt8),
     Fr h₀ L h' (fun z => if z = Str.ofString "octets" then some (.ref lo) else m z) →
     News h₀ L h' ((D, baObj b) :: g o') → o'.data = .cell (some (.ref D)) → ocs b = os → b.size ≤ 64 → (∀ q ∈ news, q.1 < D) → Q .next { s with heap := h', toks := tk' }) :
   wpC (model PySem.Challenge.rw_ke0006_01.row.prog w) (ktrTop dp un gd (Str.ofString "law") lawScope L a (.ref 408) [(Str.ofString "without", c8), (Str.ofString "v", c7), (Str.ofString "table", c6), (Str.ofString "pos", c5), (Str.ofString "off", c4), (Str.ofString "kind", c3), (Str.ofString "flags", c2), (Str.ofString "data", c1)] []) (execs lawD (envX (Str.ofString "law") lawScope L a (.ref 408) [(Str.ofString "without", c8), (Str.ofString "v", c7), (Str.ofString "table", c6), (Str.ofString "pos", c5), (Str.ofString "off", c4), (Str.ofString "kind", c3), (Str.ofString "flags", c2), (Str.ofString "data", c1)])) Q E s := by
  revert X; k_fill; intro X
  show wpC _ _ (execs [.Assign [.Name _ _] (.Call (.Name _ _) [.Name _ _] [] _) _] _) _ _ _
  refine execC_one (wpC_Assign_Name ?_)
  show wpC _ _ (do callWith _ (← eval (.Name _ _) _) [] (backTo _ (starEach _ _)) (backToKw _ (keywordEach _ _))) _ _ _
  refine wpC_bindA (nameX_B F X (topRead_of T) (by k_is) boot_ba (by decide) ?_)
  refine callWith_type_C rfl (Calls.evalArgs_plain (Calls.spliced_cons (nameX_L F rfl (Calls.spliced_nil ?_))))
  refine call_ba_C (N.get hm) hw.1 hw.2 hos fun h' hD hk => ?_
  have F' := F.keeps hk
  have N' : News h₀ L h' ((s.heap.objs.size, baObj (byteArr os)) :: news) := by
    intro q hq
    rcases List.mem_cons.mp hq with rfl | hq
    · exact ⟨hD, Nat.ne_of_gt F.ns.lt, Heap.get?_none_of_le (Nat.le_trans F.above (Nat.le_of_lt F.ns.lt))⟩
    · exact ⟨hk _ _ (N q hq).1, (N q hq).2⟩
  have hlt : ∀ q ∈ news, q.1 < s.heap.objs.size := fun q hq => Heap.lt_size (N q hq).1
  have hmem : (c1, o1) ∈ news := by
    obtain ⟨pre, post, rfl, _⟩ := U.split
    exact List.mem_append_right _ (.head _)
  have U' : UpdF c1 o1 ((s.heap.objs.size, baObj (byteArr os)) :: news) (fun o' => (s.heap.objs.size, baObj (byteArr os)) :: g o') := .tail (Nat.ne_of_gt (hlt _ hmem)) U
  refine wpC_of (storeX_C F' N' rfl U' d1 fun h'' o' F'' N'' d'' => ?_)
  exact hret h'' _ _ o' (byteArr os) F'' N'' d'' (ocs_byteArr hw.2) (by rw [byteArr_size]; exact hos) hlt
end
section
theorem lawSplit : lawBody = lawA ++ (lawB ++ (lawC ++ (lawD ++ (lawD2 ++ (lawE1 ++ (lawE2 ++ (lawE3 ++ (lawF ++ (lawG ++ (lawH ++ lawI)))))))))) := rfl
theorem ne_cell {h₀ h : Heap} {L lo c : Addr} {o o' : Obj} {v : Option Value} {xs : Array Value} {n : Nat} {news : List (Addr × Obj)} (N : News h₀ L h news) (h1 : (lo, o') ∈ news) (h2 : (c, o) ∈ news) (e1 : o'.data = .seq xs n) (e2 : o.data = .cell v) : @Ne Nat lo c := by
  rintro rfl
  have a := (N.get h1).symm.trans (N.get h2)
  rw [Option.some.inj a, e2] at e1
  cases e1
theorem ne_fields {h₀ h : Heap} {L lo c : Addr} {o o' : Obj} {v xs : Array Value} {n : Nat} {news : List (Addr × Obj)} (N : News h₀ L h news) (h1 : (lo, o') ∈ news) (h2 : (c, o) ∈ news) (e1 : o'.data = .seq xs n) (e2 : o.data = .fields v) : @Ne Nat lo c := by
  rintro rfl
  have a := (N.get h1).symm.trans (N.get h2)
  rw [Option.some.inj a, e2] at e1
  cases e1
theorem fr_oct {h₀ h : Heap} {L : Addr} {m : Str → Option Value} {v : Value} (hm : m (Str.ofString "octets") = some v) (F : Fr h₀ L h m) : Fr h₀ L h (fun z => if z = Str.ofString "octets" then some v else m z) := by
  have e : (fun z => if z = Str.ofString "octets" then some v else m z) = m := by
    funext z
    by_cases h1 : z = Str.ofString "octets"
    · subst h1; rw [if_pos rfl, hm]
    · rw [if_neg h1]
  rw [e]; exact F
theorem lawWalk {w : World} {mean : ExcName → Option Value} {mg mb : Str → Option Value} {p : Program} {loose : List Str} {c1 c2 c3 c4 c5 c6 c7 c8 : Addr} {o1 o2 o3 o4 o5 o6 o7 o8 : Obj} {l : Addr} {vs : List Value} {ns : List Int} (hi : IntsAre vs ns) (hlen : ns.length ≤ 63)
   (d1 : o1.data = .cell none) (d2 : o2.data = .cell none) (d3 : o3.data = .cell none) (d4 : o4.data = .cell none) (d5 : o5.data = .cell none) (d6 : o6.data = .cell none) (d7 : o7.data = .cell none) (d8 : o8.data = .cell none)
   (dp un : Nat) (gd : Option (List Code)) (a : Addr) (A₀ : Around) (base h₀ : Heap) (L : Addr) (s : Shared) (Q : Flow → Shared → Prop) (B : Below A₀ base [] h₀) (X : (hd.heap_1 w.params).In h₀) (T : Top p loose mean mg mb h₀) (XB : (hd.heap_1 w.params).In base) (TB : Top p loose mean mg mb base) (hd : dp + 50 < recursionLimit) (hu : un + 900 < cLine) (l0 : 404 < c1) (l1 : c1 < c2) (l2 : c2 < c3) (l3 : c3 < c4) (l4 : c4 < c5) (l5 : c5 < c6) (l6 : c6 < c7) (l7 : c7 < c8) (hC : CodeHd h₀ 408 404)
   (F : Fr h₀ L s.heap (fun y => if y = Str.ofString "script" then some (.ref l) else none))
   (hl : h₀.IsList l vs.toArray)
   (N : News h₀ L s.heap [(c8, o8), (c7, o7), (c6, o6), (c5, o5), (c4, o4), (c3, o3), (c2, o2), (c1, o1), (404, tabObj #[])])
   (hret : ∀ (h' : Heap) (tk' : Nat) (m' : Str → Option Value) (ps' : Array Value), Fr h₀ L h' m' → h'.get? 404 = some (tabObj ps') → Q (.ret (.bool true)) { s with heap := h', toks := tk' }) :
   wpC (model PySem.Challenge.rw_ke0006_01.row.prog w) (ktrTop dp un gd (Str.ofString "law") lawScope L a (.ref 408) [(Str.ofString "without", c8), (Str.ofString "v", c7), (Str.ofString "table", c6), (Str.ofString "pos", c5), (Str.ofString "off", c4), (Str.ofString "kind", c3), (Str.ofString "flags", c2), (Str.ofString "data", c1)] []) (execs lawBody (envX (Str.ofString "law") lawScope L a (.ref 408) [(Str.ofString "without", c8), (Str.ofString "v", c7), (Str.ofString "table", c6), (Str.ofString "pos", c5), (Str.ofString "off", c4), (Str.ofString "kind", c3), (Str.ofString "flags", c2), (Str.ofString "data", c1)])) Q (fun _ _ => False) s := by
  rw [lawSplit]
  refine execsC_app _ (wpC_of (pieceA hi hlen d1 d2 d3 d4 d5 d6 d7 d8 dp un gd a A₀ base h₀ L s _ _ B X T XB TB hd hu l0 l1 l2 l3 l4 l5 l6 l7 F hl N ?_))
  intro h1' tk1 x0 D0 ws0 c0 c0' k pos v off kind cut tk tp tv to tki tc q3 q4 q5 q7 F1 N1 e5 e7 e4 e3 p0 p1 v0 v1 f0 f1 k0 k1 t0 t1 i1 j1 j2
  dsimp only
  refine execsC_app _ (wpC_of (pieceB (l := l) i1 dp un gd a A₀ base h₀ L _ _ _ B X T XB TB hd hu j2 PassesOwn.never F1 N1 ?_))
  intro h2' tk2 lo2 m2 ws2 co2 os2 F2 N2 w2 s2
  dsimp only
  refine execsC_app _ (wpC_of (pieceC dp un gd a A₀ base h₀ L _ _ _ B X T XB TB hd hu w2 s2 t0 t1 F2 N2 ?_))
  intro h3' tk3 lo m3 ws co os F3 N3 w3 s3
  dsimp only
  replace l0 := ltN l0; replace l1 := ltN l1; replace l2 := ltN l2; replace l3 := ltN l3; replace l4 := ltN l4; replace l5 := ltN l5; replace l6 := ltN l6; replace l7 := ltN l7
  have z1 : @Ne Nat lo c1 := ne_cell N3 (.head _) (by k_mem) rfl d1
  have z2 : @Ne Nat lo c2 := ne_cell N3 (.head _) (by k_mem) rfl d2
  have z6 : @Ne Nat lo c6 := ne_cell N3 (.head _) (by k_mem) rfl d6
  have z8 : @Ne Nat lo c8 := ne_cell N3 (.head _) (by k_mem) rfl d8
  have l404 : @Ne Nat 404 c1 := by omega
  refine execsC_app _ (pieceD dp un gd a A₀ base h₀ L _ _ _ B X T XB TB hd hu w3 s3 F3 N3 (.head _)
    (.tail (fun h => z1 h) (.tail (by k_ne) (.tail (by k_ne) (.tail (by k_ne) (.tail (by k_ne) (.tail (by k_ne) (.tail (by k_ne) (.tail (by k_ne) (.head (fun q hq => by rw [List.mem_singleton.mp hq]; exact l404)))))))))) d1 ?_)
  intro h4' tk4 D r1 b F4 N4 g1 hob hbz hlt
  dsimp only
  have hD8 : @LT.lt Nat _ c8 D := ltN (hlt _ (.tail _ (.head _)))
  have hi' : IntsAre ws (ocs b) := by rw [hob]; exact w3.1
  refine execsC_app _ (wpC_of (pieceT dp un gd a A₀ base h₀ L _ _ _ B X T XB TB hd hu (by exact l0) (by exact l1) (by exact l2) (by exact l3) (by exact l4) (by exact l5) (by exact l6) (by exact l7) hD8 z6 p0 p1 g1 e5 d6 F4 N4 ?_))
  intro h5' tk5 x dx r6 F5 N5 g6 hx1 hx2
  dsimp only
  refine execsC_app _ (wpC_of (pieceE1 (led := []) dp un gd a A₀ base h₀ L _ _ _ B X T XB TB hd hu (by exact l0) (by exact l1) (by exact l2) (by exact l3) (by exact l4) (by exact l5) (by exact l6) (by exact l7) (by omega) (by omega) (by omega) z2 k0 k1 e3 d2 F5 N5 ?_))
  intro h6' tk6 r2 F6 N6 g2
  dsimp only
  refine execsC_app _ (wpC_of (pieceE2 (led := []) dp un gd a A₀ base h₀ L _ _ _ B X T XB TB hd hu (by exact l0) (by exact l1) (by exact l2) (by exact l3) (by exact l4) (by exact l5) (by exact l6) (by exact l7) (by omega) (by omega) (by omega) z8 k0 k1 f0 f1 e3 e4 d8 F6 N6 ?_))
  intro h7' tk7 s8 t7 F7 N7 g8
  dsimp only
  refine execsC_app _ (wpC_of (pieceE3 dp un gd a A₀ base h₀ L _ _ _ B X T XB TB hd hu (by exact l0) (by exact l1) (by exact l2) (by exact l3) (by exact l4) (by exact l5) (by exact l6) (by exact l7) (by omega) (by omega) (by omega) z8 e3 g8 F7 N7 ?_))
  intro h8' tk8 r8 wv F8 N8 g8' hw
  dsimp only
  obtain ⟨dA, td, rfl, hA⟩ : ∃ (dA : Ans) (td : Tok), wv = dA.val td ∧ DefOk dA kind off := by
    rcases hw with ⟨hk, bb, e⟩ | ⟨hk, t, e⟩
    · exact ⟨.bool bb, 0, e, .inl ⟨hk, bb, rfl⟩⟩
    · exact ⟨.int (defK kind.toNat off), t, e, .inr ⟨hk, rfl⟩⟩
  refine execsC_app _ (wpC_of (pieceF (o1 := r1) (o2 := r2) (o3 := q3) (o6 := r6) (o7 := q7) (o8 := r8) (led := [(x, tabObj' dx D pos tp), (dx, dictOf [] 0), (D, baObj b), (lo, listOf ws.toArray co), (c8, r8), (c7, q7), (c6, r6), (c5, q5), (c4, q4), (c3, q3), (c2, r2), (c1, r1), (404, tabObj #[])]) dp un gd a A₀ base h₀ L _ _ _ B X T XB TB hd hu p0 p1 f0 f1 hi' hbz e4 e5 F8
    (fun q hq => N8 q (by
      rcases List.mem_cons.mp hq with rfl | hq
      · k_mem
      · rcases List.mem_cons.mp hq with rfl | hq
        · k_mem
        · rcases List.mem_cons.mp hq with rfl | hq
          · k_mem
          · exact hq)) ?_))
  intro h9' tk9 t9 u9 F9 N9
  dsimp only
  have hne : ∀ q ∈ [(x, tabObj' dx D pos tp), (dx, dictOf [] 0), (D, baObj b), (lo, listOf ws.toArray co), (c8, r8), (c7, q7), (c6, r6), (c5, q5), (c4, q4), (c3, q3), (c2, r2), (c1, r1)], q.1 ≠ 404 := by
    have zl : @Ne Nat lo 404 := ne_fields N9 (.head _) (by k_mem) rfl rfl
    exact List.forall_mem_cons.mpr ⟨by k_ne, List.forall_mem_cons.mpr ⟨by k_ne, List.forall_mem_cons.mpr ⟨by k_ne, List.forall_mem_cons.mpr ⟨by k_ne, List.forall_mem_cons.mpr ⟨by k_ne, List.forall_mem_cons.mpr ⟨by k_ne, List.forall_mem_cons.mpr ⟨by k_ne, List.forall_mem_cons.mpr ⟨by k_ne, List.forall_mem_cons.mpr ⟨by k_ne, List.forall_mem_cons.mpr ⟨by k_ne, List.forall_mem_cons.mpr ⟨by k_ne, List.forall_mem_cons.mpr ⟨by k_ne, (fun _ h => nomatch h)⟩⟩⟩⟩⟩⟩⟩⟩⟩⟩⟩⟩
  have key9 : ∀ q ∈ (404, tabObj #[]) :: [(x, tabObj' dx D pos tp), (dx, dictOf [] 0), (D, baObj b), (lo, listOf ws.toArray co), (c8, r8), (c7, q7), (c6, r6), (c5, q5), (c4, q4), (c3, q3), (c2, r2), (c1, r1)], q ∈ (lo, listOf ws.toArray co) :: (c5, q5) :: (c4, q4) :: [(x, tabObj' dx D pos tp), (dx, dictOf [] 0), (D, baObj b), (lo, listOf ws.toArray co), (c8, r8), (c7, q7), (c6, r6), (c5, q5), (c4, q4), (c3, q3), (c2, r2), (c1, r1), (404, tabObj #[])] :=
    List.forall_mem_cons.mpr ⟨by k_mem, List.forall_mem_cons.mpr ⟨by k_mem, List.forall_mem_cons.mpr ⟨by k_mem, List.forall_mem_cons.mpr ⟨by k_mem, List.forall_mem_cons.mpr ⟨by k_mem, List.forall_mem_cons.mpr ⟨by k_mem, List.forall_mem_cons.mpr ⟨by k_mem, List.forall_mem_cons.mpr ⟨by k_mem, List.forall_mem_cons.mpr ⟨by k_mem, List.forall_mem_cons.mpr ⟨by k_mem, List.forall_mem_cons.mpr ⟨by k_mem, List.forall_mem_cons.mpr ⟨by k_mem, List.forall_mem_cons.mpr ⟨by k_mem, (fun _ h => nomatch h)⟩⟩⟩⟩⟩⟩⟩⟩⟩⟩⟩⟩⟩
  refine execsC_app _ (wpC_of (pieceG (dx := dx) (co := co) (led := [(x, tabObj' dx D pos tp), (dx, dictOf [] 0), (D, baObj b), (lo, listOf ws.toArray co), (c8, r8), (c7, q7), (c6, r6), (c5, q5), (c4, q4), (c3, q3), (c2, r2), (c1, r1)]) dp un gd a A₀ base h₀ L _ _ _ B X T XB TB hd hu hC p0 p1 v0 v1 f0 f1 k0 k1 hA hi' hbz g1 g2 e3 e4 e5 g6 e7 g8' hne ?_ F9
    (fun q hq => N9 q (key9 q hq)) ?_))
  · unfold lawLed
    exact List.forall_mem_cons.mpr ⟨by k_mem, List.forall_mem_cons.mpr ⟨by k_mem, List.forall_mem_cons.mpr ⟨by k_mem, List.forall_mem_cons.mpr ⟨by k_mem, List.forall_mem_cons.mpr ⟨by k_mem, List.forall_mem_cons.mpr ⟨by k_mem, List.forall_mem_cons.mpr ⟨by k_mem, List.forall_mem_cons.mpr ⟨by k_mem, List.forall_mem_cons.mpr ⟨by k_mem, List.forall_mem_cons.mpr ⟨by k_mem, List.forall_mem_cons.mpr ⟨by k_mem, List.forall_mem_cons.mpr ⟨by k_mem, (fun _ h => nomatch h)⟩⟩⟩⟩⟩⟩⟩⟩⟩⟩⟩⟩
  intro h10' tk10 lr rs led' F10 N10 hs10 hps10 hr10
  dsimp only
  refine execsC_app _ (wpC_of (pieceH dp un gd a A₀ base h₀ L _ _ _ B X T XB TB hd hu PassesOwn.never v0 v1 f0 hr10 F10 N10 ?_))
  intro h11' tk11 m11 hm11 F11 N11
  dsimp only
  refine wpC_of (pieceI (o2 := r2) (o3 := q3) (o4 := q4) (o5 := q5) (o6 := r6) (o7 := q7) (o8 := r8) (led := led') dp un gd a A₀ base h₀ L _ _ _ B X T XB TB hd hu hbz hi' (hs10 _ (by k_mem)) (hs10 _ (by k_mem)) (hs10 _ (by k_mem)) g1 (fr_oct ((hm11 _ (by decide) (by decide) (by decide)).trans rfl) F11) N11 ?_)
  intro h12' tk12 F12 N12
  obtain ⟨ps', hps'⟩ := hps10
  exact hret h12' tk12 _ ps' F12 (N12.get hps')
end
section
section
variable {M : Model} {A : Around} {E : Value → Shared → Prop} {s : Shared}
theorem wpC_onRaise {α : Type} {m : Sem α} {k : Value → Sem Unit} {Q : α → Shared → Prop}
    (h : wpC M A m Q (fun e s' => wpC M A (k e) (fun _ s'' => E e s'') E s') s) : wpC M A (m.onRaise k) Q E s := fun Γ p hΓ h1 h2 => by
  rw [Sem.wp_onRaise]
  exact Sem.wp_mono M Γ m (fun _ _ _ h' => h') (fun e p' s' h' => h' Γ p' hΓ h1 h2) p s (h Γ p hΓ h1 h2)
end
section
variable {prog : Program} {w : World} {A : Around} {E : Value → Shared → Prop} {s : Shared} {R : Result → Shared → Prop}
theorem codeC_func {body : List Stmt} {env : Env}
    (h : wpC (model prog w) (A.deeper env) (execs body env) (fun f s' => R (.ok (.ret (match f with | .ret v => v | _ => .none))) s')
      (fun e s' => wpAny (model prog w) (A.deeper env) (leaving env e) (fun _ s'' => R (.error e) s'') (fun e' s'' => R (.error e') s'') s') s) :
    codeC (model prog w) A (.func body env) R s := by
  refine codeC_of_tree rfl ?_
  show wpC _ (A.deeper env) (do point; match ← (execs body env).onRaise (leaving env) with | .ret v => ret v | _ => ret .none) _ _ s
  refine wpC_bindA (wpAny_point (wpC_bind (wpC_onRaise (wpC_mono h (fun f s' h' => ?_) fun _ _ h' => wpC_of h'))))
  cases f <;> exact wpC_pure h'
theorem codeC_call_function {a : Addr} {args : Args} {o : Obj} {fd : FuncData} {body : List Stmt} (hroom : A.depth < recursionLimit) (ho : s.heap.get? a = some o)
    (hd' : o.data = .func fd) (hco : fd.scope.isCoroutine = false) (hgen : fd.scope.isGenerator = false) (hbody : fd.body = .stmts body) (hcd : s.heap.CodeRec fd.code fd.qualname)
    (h : wpAny (model prog w) A.in1 (bindArgs fd args) (fun binds s₁ =>
      wpAny (model prog w) A.in1 (newFunctionEnv fd.scope fd.globals fd.closure binds (fd.qualname ++ ".<locals>.") (some a) fd.code none fd.builtins)
        (fun env s₂ => s₂.heap.NoLimit ∧ codeC (model prog w) A (.func body env) R s₂) (fun e s' => R (.error e) s') s₁) (fun e s' => R (.error e) s') s) :
    codeC (model prog w) A (.call (.ref a) args) R s := by
  refine codeC_of_tree rfl (wpC_of ?_)
  show wpAny _ A.in1 (callAny (.ref a) args) _ _ s
  simp only [callAny]
  refine wpAny_bind (wpAny_load ho ?_)
  obtain ⟨c, oc, vs, tq, hc, hoc, hdc, hq⟩ := hcd
  simp only [hd', callFunction, hco, hgen, hbody, hc]
  rw [hc] at h
  refine wpAny_bind (m := field (.ref c) 1) (wpAny_field hoc hdc hq (wpAny_bind (wpAny_pure ?_)))
  exact wpAny_bind (wpAny_mono h (fun binds s₁ h₁ => wpAny_bind (wpAny_mono h₁ (fun env s₂ h₂ => wpAny_bind (wpAny_enterFrame h₂.1 hroom
    (wpAny_pure (And.intro rfl h₂.2)))) fun _ _ h' => h')) fun _ _ h' => h')
/-- a call of a def with cells, where no activation on the stack holds a bytearray -/
theorem call_cellsC {name : Str} {params : Arguments} {body : List Stmt} {scope : Scope}
    {pm cd doc : Value} {a : Addr} {o : Obj} {args : List Value} {binds : List (Str × Value)}
    (hroom : A.depth < recursionLimit) (ho : s.heap.get? a = some o) (hdata : o.data = .func (Calls.docDef name params body scope pm cd doc)) (hlim : s.heap.NoLimit) (hcd : s.heap.CodeRec cd name)
    (hbind : bindArgs (Calls.docDef name params body scope pm cd doc) ⟨args, []⟩ = pure binds)
    (hkind : ∀ x ∈ binds, scope.names.lookup x.1 = some .local ∨ (scope.names.lookup x.1 = some .cell ∧ ((cellsFrom (s.heap.objs.size + 1) scope.names []).lookup x.1).isSome = true))
    (hnd : ((cellsFrom 0 scope.names []).map (·.1)).Nodup)
    (h : ∀ h₁ tk cells, Fr s.heap s.heap.objs.size h₁ (bindL (envOfC name scope s.heap.objs.size a cd).kindOf binds fun _ => none) → News s.heap s.heap.objs.size h₁ cells →
      CellsAre (bindC (envOfC name scope s.heap.objs.size a cd).kindOf binds fun _ => none) (cellsFrom (s.heap.objs.size + 1) scope.names []) cells →
      wpC (model prog w) (A.deeper (envOfC name scope s.heap.objs.size a cd)) (execs body (envOfC name scope s.heap.objs.size a cd))
        (fun f s' => R (.ok (.ret (match f with | .ret v => v | _ => .none))) s')
        (fun e s' => wpAny (model prog w) (A.deeper (envOfC name scope s.heap.objs.size a cd)) (leaving (envOfC name scope s.heap.objs.size a cd) e)
          (fun _ s'' => R (.error e) s'') (fun e' s'' => R (.error e') s'') s')
        { s with heap := h₁, toks := tk })
    (hco : scope.isCoroutine = false := by rfl) (hgen : scope.isGenerator = false := by rfl) (hk : scope.kind = .function := by rfl) :
    codeC (model prog w) A (.call (.ref a) ⟨args, []⟩) R s := by
  refine codeC_call_function (fd := Calls.docDef name params body scope pm cd doc) hroom ho hdata hco hgen rfl hcd ?_
  rw [hbind]
  refine wpAny_pure (wpAny_newFunctionEnv_cells hk hkind fun env he s' x => ?_)
  subst he
  refine ⟨hlim.keeps x.toInCall.keep, codeC_func ?_⟩
  obtain ⟨h₁, tk, rfl, _⟩ := x.done
  have F : Fr s.heap s.heap.objs.size h₁ _ := ⟨x.toInCall.ns, x.toInCall.keep, x.toInCall.fresh⟩
  have X : Cl s.heap.objs.size (cellsFrom (s.heap.objs.size + 1) scope.names []) h₁ (bindC (envOfC name scope s.heap.objs.size a cd).kindOf binds fun _ => none) := ⟨x.cell, x.apart, x.above⟩
  obtain ⟨cells, N, Y⟩ := Cl.news (h₀ := s.heap) (Nat.le_refl _) fun n c hm => ⟨X.cell n c (lookup_of_mem_nodup (cellsFrom_names scope.names 0 (s.heap.objs.size + 1) [] [] rfl ▸ hnd) hm), X.above n c hm⟩
  exact h h₁ tk cells F N Y
theorem enter_callC {f : Value} {pos : List Value} {kw : List (Str × Value)} {c : ClaimW} {cl : Str → Option Addr} {mean : ExcName → Option Value} {args : List WData} {s₁ : Shared}
    (h : codeC (model prog w) A (.call f ⟨pos, kw⟩) (GoodWG c cl mean args s₁) s) : wpC (model prog w) A (PySem.call f pos kw) (fun v s' => GoodWG c cl mean args s₁ (.ok (.ret v)) s') (fun e s' => GoodWG c cl mean args s₁ (.error e) s') s :=
  wpC_call (codeC_mono h fun res s' g => by rcases g.1 with ⟨v, _, _, rfl, _⟩ | ⟨e, _, _, rfl, _⟩ <;> exact g)
end
section
/-- a model in which every code ends as told -/
def flatM (w : World) (f : Flow) : Model := { den := fun _ => .pure (.done f), prog := PySem.Challenge.rw_ke0006_01.row.prog, w := w }
theorem flat_out {w : World} {f : Flow} {s : Shared} {R : Result → Shared → Prop} (h : codeAny (flatM w f) callerA (.builtin "claim.caller" {}) R s) : R (.ok f) s := by
  have z := h ⟨.builtin "claim.caller" {}, none, none, [], none⟩ default rfl ?_
  · rw [wpCode_iff_wp] at z
    exact z
  · exact ⟨rfl, by show frameCount [] ≤ 1 + claimMargin; decide +kernel, fun l hl => by cases hl; rfl, fun g hg => by cases hg; rfl, by show unitsOf [] ≤ 4; decide +kernel⟩
theorem flat_in {w : World} {f : Flow} {s : Shared} {R : Result → Shared → Prop} (h : R (.ok f) s) : codeAny (flatM w f) callerA (.builtin "claim.caller" {}) R s := codeAny_of_tree (wpAny_pure h)
theorem kn_postP (w : World) {f : Flow} {s' s₁ : Shared} {cw : ClaimW} {cl : Str → Option Addr} {mean : ExcName → Option Value} {args : List WData} {tabs : List (Addr × Addr)} (hT : TabsAt tabs s₁.heap) (hr : ∀ a x, cw.raises a x = false)
    (h : GoodW cw cl mean args { s₁ with heap := ghostOf s₁.heap tabs } (.ok f) s' ∧ GrownAll tabs s'.heap) : GoodWG cw cl mean args s₁ (.ok f) s' :=
  flat_out (w := w) (kn_post hT hr (flat_in h))
theorem kn_postC {M : Model} {A : Around} {cd : Code} {s s₁ : Shared} {cw : ClaimW} {cl : Str → Option Addr} {mean : ExcName → Option Value} {args : List WData} {tabs : List (Addr × Addr)} (hT : TabsAt tabs s₁.heap) (hr : ∀ a x, cw.raises a x = false)
    (h : codeC M A cd (fun r s' => ∃ f, r = .ok f ∧ GoodW cw cl mean args { s₁ with heap := ghostOf s₁.heap tabs } (.ok f) s' ∧ GrownAll tabs s'.heap) s) : codeC M A cd (GoodWG cw cl mean args s₁) s :=
  codeC_mono h fun r s' ⟨f, e, z⟩ => by subst e; exact kn_postP M.w hT hr z
end
end
section
/-- the walk that the head asks -/
def walk := second hd (by
  k_fill
  intro w s₀ s₁ mg mb G Y fa o pm cd doc dV kV ho hd hcd hD hmg hg args vals as hpre hlay hrd hwl hlo
  have KX := km_in_of Y
  km_tabs Y
  have X := (Ground.X G).1
  have V := (Ground.X G).2
  refine Ground.open G ?_
  intro T B D TE TW
  try (refine guard_noD D (by decide +kernel) ?_; clear D)
  km_lay T hmg ho hd cd
  clear hmg
  wrow_args hpre hlay hrd hwl hlo
  refine enter_callC ?_
  refine kn_postC hT9 (fun _ _ => rfl) ?_
  have he := Dflts.none hD rfl; subst he; have he := Dflts.noKw hD; subst he
  refine call_cellsC (by decide) ho (fd_plain hd) (Top.nolimit T) hcd rfl (kinds_of (by kinds_ok)) (by decide) fun h₁ tk₁ cells F N0 X0 => ?_
  cells_open X0
  clear hd
  kn_ghosts F T
  rename Below _ _ _ _ => BK
  rename Fr _ _ _ _ => FK
  rename News _ _ _ _ => NK
  rename Frag.In _ _ => XK
  rename Top _ _ _ _ _ _ => TK
  rename IntsAre _ _ => IK
  rename CodeHd _ _ _ => CK
  rename Heap.IsList _ _ _ => LK
  have FK2 : Fr _ _ _ (fun y => if y = Str.ofString "script" then some (Value.ref _) else none) := FK
  refine wpC_mono (E := fun _ _ => False) (Q := fun f s' => f = .ret (.bool true) ∧ ∃ h' tk' m' ps', s' = { s₁ with heap := h', toks := tk' } ∧ Fr (ghostOf s₁.heap [(408, 404)]) s₁.heap.objs.size h' m' ∧ h'.get? 404 = some (tabObj ps')) ?walk ?fin (fun _ _ h => h.elim)
  case walk =>
    have ec : cellsFrom (s₁.heap.objs.size + 1) lawScope.names [] = [(Str.ofString "without", s₁.heap.objs.size + 1 + 1 + 1 + 1 + 1 + 1 + 1 + 1), (Str.ofString "v", s₁.heap.objs.size + 1 + 1 + 1 + 1 + 1 + 1 + 1), (Str.ofString "table", s₁.heap.objs.size + 1 + 1 + 1 + 1 + 1 + 1), (Str.ofString "pos", s₁.heap.objs.size + 1 + 1 + 1 + 1 + 1), (Str.ofString "off", s₁.heap.objs.size + 1 + 1 + 1 + 1), (Str.ofString "kind", s₁.heap.objs.size + 1 + 1 + 1), (Str.ofString "flags", s₁.heap.objs.size + 1 + 1), (Str.ofString "data", s₁.heap.objs.size + 1)] := rfl
    have ee : callerA.deeper (envOfC (Str.ofString "law") lawScope s₁.heap.objs.size fa (.ref 408)) = ktrTop 302 7 (some []) (Str.ofString "law") lawScope s₁.heap.objs.size fa (.ref 408) [(Str.ofString "without", s₁.heap.objs.size + 1 + 1 + 1 + 1 + 1 + 1 + 1 + 1), (Str.ofString "v", s₁.heap.objs.size + 1 + 1 + 1 + 1 + 1 + 1 + 1), (Str.ofString "table", s₁.heap.objs.size + 1 + 1 + 1 + 1 + 1 + 1), (Str.ofString "pos", s₁.heap.objs.size + 1 + 1 + 1 + 1 + 1), (Str.ofString "off", s₁.heap.objs.size + 1 + 1 + 1 + 1), (Str.ofString "kind", s₁.heap.objs.size + 1 + 1 + 1), (Str.ofString "flags", s₁.heap.objs.size + 1 + 1), (Str.ofString "data", s₁.heap.objs.size + 1)] [] := by
      rw [← ec]; rfl
    have ev : envOfC (Str.ofString "law") lawScope s₁.heap.objs.size fa (.ref 408) = envX (Str.ofString "law") lawScope s₁.heap.objs.size fa (.ref 408) [(Str.ofString "without", s₁.heap.objs.size + 1 + 1 + 1 + 1 + 1 + 1 + 1 + 1), (Str.ofString "v", s₁.heap.objs.size + 1 + 1 + 1 + 1 + 1 + 1 + 1), (Str.ofString "table", s₁.heap.objs.size + 1 + 1 + 1 + 1 + 1 + 1), (Str.ofString "pos", s₁.heap.objs.size + 1 + 1 + 1 + 1 + 1), (Str.ofString "off", s₁.heap.objs.size + 1 + 1 + 1 + 1), (Str.ofString "kind", s₁.heap.objs.size + 1 + 1 + 1), (Str.ofString "flags", s₁.heap.objs.size + 1 + 1), (Str.ofString "data", s₁.heap.objs.size + 1)] := by
      rw [← ec]; rfl
    show wpC _ (callerA.deeper (envOfC (Str.ofString "law") lawScope s₁.heap.objs.size fa (.ref 408))) (execs lawBody (envOfC (Str.ofString "law") lawScope s₁.heap.objs.size fa (.ref 408))) _ _ _
    rw [ee, ev]
    have W := fun hd hu l0 l1 l2 l3 l4 l5 l6 l7 d1 d2 d3 d4 d5 d6 d7 d8 => lawWalk IK (by omega) d1 d2 d3 d4 d5 d6 d7 d8 302 7 (some []) fa callerA (ghostOf s₁.heap [(408, 404)]) (ghostOf s₁.heap [(408, 404)]) s₁.heap.objs.size { s₁ with heap := h₁, toks := tk₁ } (fun f s' => f = .ret (.bool true) ∧ ∃ h' tk' m' ps', s' = { s₁ with heap := h', toks := tk' } ∧ Fr (ghostOf s₁.heap [(408, 404)]) s₁.heap.objs.size h' m' ∧ h'.get? 404 = some (tabObj ps')) BK XK TK XK TK hd hu l0 l1 l2 l3 l4 l5 l6 l7 CK FK2 LK NK (fun h' tk' m' ps' F e => ⟨rfl, h', tk', m', ps', rfl, F, e⟩)
    refine W ?hd ?hu ?l0 ?l1 ?l2 ?l3 ?l4 ?l5 ?l6 ?l7 ?d1 ?d2 ?d3 ?d4 ?d5 ?d6 ?d7 ?d8
    all_goals (first | assumption | decide | (show @LT.lt Nat _ _ _; omega) | skip)
  case fin =>
    rintro f s' ⟨rfl, h', tk', m', ps', rfl, F, e⟩
    refine ⟨_, rfl, goodW_bool F hg (fun _ => rfl) ?_, ⟨ps', e⟩, trivial⟩
    exact postW_of (by wrow_shape) (by wtm_val) (by first | rfl | decide | simp))
end
theorem kw91 : True := by
  w_top off
  k_with_none
  k_with "k_ne" => ((try dsimp only); with_reducible first | exact Nat.ne_of_lt (by k_extra "mine lt") | exact Nat.ne_of_gt (by k_extra "mine lt") | fail)
  k_with "mine lt" => (first | assumption | (refine Nat.lt_trans (by assumption) ?_; k_extra "mine lt"))
  trivial
section
/-! The head of the walk lays a twin, and its equation, of every constant that it lays. Such an equation grows with the square of the number of objects: all of them together would make the compiled file too large. These names are taken ahead of it, so that it goes on without those twins. -/
theorem J1.tw5008899159167834577 : True := ⟨⟩
theorem J1.tw7885178976354855613 : True := ⟨⟩
theorem J1.tw13958054129727866954 : True := ⟨⟩
theorem J1.tw5807762325582406825 : True := ⟨⟩
theorem J1.tw16189354161042719007 : True := ⟨⟩
theorem J1.tw18180460768141371388 : True := ⟨⟩
theorem J1.tw11219019475290534495 : True := ⟨⟩
theorem J1.tw10827774857474880040 : True := ⟨⟩
theorem J1.tw7842627461392277624 : True := ⟨⟩
theorem J1.tw780517114018423351 : True := ⟨⟩
theorem J1.tw17934387292636432346 : True := ⟨⟩
theorem J1.tw13483576555801079645 : True := ⟨⟩
theorem J1.tw14353001306900504918 : True := ⟨⟩
theorem J1.tw16630193628822794786 : True := ⟨⟩
theorem J1.tw11764237004026742372 : True := ⟨⟩
theorem J1.tw9703973498181299423 : True := ⟨⟩
theorem J1.tw3408634657412904048 : True := ⟨⟩
theorem J1.tw4820785075149946707 : True := ⟨⟩
theorem J1.tw14161822958363725077 : True := ⟨⟩
theorem J1.tw1161120444663802028 : True := ⟨⟩
theorem J1.tw1605058151408921896 : True := ⟨⟩
theorem J1.tw14978160415865129277 : True := ⟨⟩
theorem J1.tw11003776031853418736 : True := ⟨⟩
theorem J1.tw18381565222395929324 : True := ⟨⟩
theorem J1.tw5705728058215643300 : True := ⟨⟩
theorem J1.tw16953064535034133766 : True := ⟨⟩
theorem J1.tw7365277924946155330 : True := ⟨⟩
theorem J1.tw2808135053742109240 : True := ⟨⟩
theorem J1.tw1783077782841026604 : True := ⟨⟩
theorem J1.tw18382919535699812138 : True := ⟨⟩
theorem J1.tw5068585926249502215 : True := ⟨⟩
theorem J1.tw13265945378768571354 : True := ⟨⟩
theorem J1.tw5052193506901819790 : True := ⟨⟩
theorem J1.tw18343647157207415312 : True := ⟨⟩
theorem J1.tw13842031390155039320 : True := ⟨⟩
theorem J1.tw15775533956365775615 : True := ⟨⟩
theorem J1.tw3617996657595413151 : True := ⟨⟩
theorem J1.tw7808249692080791181 : True := ⟨⟩
theorem J1.tw17636672824826525481 : True := ⟨⟩
theorem J1.tw14652080702204609285 : True := ⟨⟩
theorem J1.tw3137085282985416999 : True := ⟨⟩
theorem J1.tw12790799395062452363 : True := ⟨⟩
theorem J1.tw18009611712288005924 : True := ⟨⟩
theorem J1.tw17747565484905686268 : True := ⟨⟩
theorem J1.tw9937927342410698150 : True := ⟨⟩
theorem J1.tw1722728175407815700 : True := ⟨⟩
theorem J1.tw6577620349979220555 : True := ⟨⟩
theorem J1.tw15783881924357420996 : True := ⟨⟩
theorem J1.tw15591420359443903558 : True := ⟨⟩
theorem J1.tw5999249109454249980 : True := ⟨⟩
theorem J1.tw15682885303631660722 : True := ⟨⟩
theorem J1.tw12482680454622747462 : True := ⟨⟩
theorem J1.tw11665258044333816244 : True := ⟨⟩
theorem J1.tw18331614017160914629 : True := ⟨⟩
theorem J1.tw16129610061355500073 : True := ⟨⟩
theorem J1.tw12292779715600658679 : True := ⟨⟩
theorem J1.tw17898974104857174053 : True := ⟨⟩
theorem J1.tw677560099754731819 : True := ⟨⟩
theorem J1.tw824993689251472935 : True := ⟨⟩
theorem J1.tw17304120172731952596 : True := ⟨⟩
theorem J1.tw12220403011672983327 : True := ⟨⟩
theorem J1.tw7855642183980897606 : True := ⟨⟩
theorem J1.tw14190338168454018687 : True := ⟨⟩
theorem J1.tw6738087505111990929 : True := ⟨⟩
theorem J1.tw975836693714128064 : True := ⟨⟩
theorem J1.tw11230794349825000931 : True := ⟨⟩
theorem J1.tw15991142849425442523 : True := ⟨⟩
theorem J1.tw2976461795642151815 : True := ⟨⟩
theorem J1.tw916175488885704993 : True := ⟨⟩
theorem J1.tw5722033517123992259 : True := ⟨⟩
theorem J1.tw8829315505937376049 : True := ⟨⟩
theorem J1.tw5481810577801558268 : True := ⟨⟩
theorem J1.tw3383934763989658006 : True := ⟨⟩
theorem J1.tw15646072799060162528 : True := ⟨⟩
theorem J1.tw1379623138528605309 : True := ⟨⟩
theorem J1.tw4007974645477203279 : True := ⟨⟩
theorem J1.tw1243162972098741261 : True := ⟨⟩
theorem J1.tw14303135902901914955 : True := ⟨⟩
theorem J1.tw3386738404992849523 : True := ⟨⟩
theorem J1.tw5797194709302134994 : True := ⟨⟩
theorem J1.tw273515475789528609 : True := ⟨⟩
theorem J1.tw6668265282253999340 : True := ⟨⟩
theorem J1.tw7447613806780491770 : True := ⟨⟩
theorem J1.tw1124407892712228581 : True := ⟨⟩
theorem J1.tw12921394441870337715 : True := ⟨⟩
theorem J1.tw7816484342424351743 : True := ⟨⟩
theorem J1.tw16882018156465333242 : True := ⟨⟩
theorem J1.tw12360556693319155068 : True := ⟨⟩
theorem J1.tw256156042516521197 : True := ⟨⟩
theorem J1.tw3421880610674573319 : True := ⟨⟩
theorem J1.tw6907058542217426278 : True := ⟨⟩
theorem J1.tw7251087492875198199 : True := ⟨⟩
theorem J1.tw15948764978096547487 : True := ⟨⟩
theorem J1.tw9046099316630783670 : True := ⟨⟩
theorem J1.tw5030981301131291402 : True := ⟨⟩
theorem J1.tw4036849305949120281 : True := ⟨⟩
theorem J1.tw14442203936093786523 : True := ⟨⟩
theorem J1.tw16261753924923699805 : True := ⟨⟩
theorem J1.tw7088268196073228064 : True := ⟨⟩
theorem J1.tw9078099717586251386 : True := ⟨⟩
theorem J1.tw9676954576667769341 : True := ⟨⟩
theorem J1.tw15670103577122454462 : True := ⟨⟩
theorem J1.tw4553017397933932144 : True := ⟨⟩
theorem J1.tw3383337886565602162 : True := ⟨⟩
theorem J1.tw11110454116520147533 : True := ⟨⟩
theorem J1.tw8734791476806895051 : True := ⟨⟩
theorem J1.tw11329514362961591794 : True := ⟨⟩
theorem J1.tw7263667854626614899 : True := ⟨⟩
theorem J1.tw18426028239840990218 : True := ⟨⟩
theorem J1.tw389148437246699250 : True := ⟨⟩
theorem J1.tw10912946520662477207 : True := ⟨⟩
theorem J1.tw16976590420989436483 : True := ⟨⟩
theorem J1.tw13940225809995276028 : True := ⟨⟩
theorem J1.tw9564616490016374778 : True := ⟨⟩
theorem J1.tw15136226321583935786 : True := ⟨⟩
theorem J1.tw14502829070213676358 : True := ⟨⟩
theorem J1.tw9388246780901244705 : True := ⟨⟩
theorem J1.tw6235703630878459391 : True := ⟨⟩
theorem J1.tw5525504468323482525 : True := ⟨⟩
theorem J1.tw8503487504464351896 : True := ⟨⟩
theorem J1.tw16649800347441645040 : True := ⟨⟩
theorem J1.tw18284538269298712411 : True := ⟨⟩
theorem J1.tw8316197197341453419 : True := ⟨⟩
theorem J1.tw3081665073771342719 : True := ⟨⟩
theorem J1.tw13533093329325655143 : True := ⟨⟩
theorem J1.tw5613057584755143412 : True := ⟨⟩
theorem J1.tw4002610665190221457 : True := ⟨⟩
theorem J1.tw11836186757827770283 : True := ⟨⟩
theorem J1.tw18115765864818875528 : True := ⟨⟩
theorem J1.tw3606141575799658435 : True := ⟨⟩
theorem J1.tw17041128613639257770 : True := ⟨⟩
theorem J1.tw15003465960366887585 : True := ⟨⟩
theorem J1.tw13230201813293671305 : True := ⟨⟩
theorem J1.tw11190979695273649758 : True := ⟨⟩
theorem J1.tw2405742869144486494 : True := ⟨⟩
theorem J1.tw14478108782989361031 : True := ⟨⟩
theorem J1.tw12073086689918183360 : True := ⟨⟩
theorem J1.tw16344199057493256424 : True := ⟨⟩
theorem J1.tw14949731212543251008 : True := ⟨⟩
theorem J1.tw2496820153911750503 : True := ⟨⟩
theorem J1.tw14126579494469414802 : True := ⟨⟩
theorem J1.tw5820576736841638832 : True := ⟨⟩
theorem J1.tw12281701395538319150 : True := ⟨⟩
theorem J1.tw17708548954806942039 : True := ⟨⟩
theorem J1.tw13550021286495248560 : True := ⟨⟩
theorem J1.tw6959273595826660784 : True := ⟨⟩
theorem J1.tw12942819797521073280 : True := ⟨⟩
theorem J1.tw14385855275925043441 : True := ⟨⟩
theorem J1.tw8013560449407180157 : True := ⟨⟩
theorem J1.tw1876302348863469033 : True := ⟨⟩
theorem J1.tw15145777175176653823 : True := ⟨⟩
theorem J1.tw12362714358166565892 : True := ⟨⟩
theorem J1.tw6727256998743434612 : True := ⟨⟩
theorem J1.tw1299156995068276700 : True := ⟨⟩
theorem J1.tw10322535304699660502 : True := ⟨⟩
theorem J1.tw11558475312047105350 : True := ⟨⟩
theorem J1.tw14291020459164502452 : True := ⟨⟩
theorem J1.tw2837757999568234893 : True := ⟨⟩
theorem J1.tw525746287782062399 : True := ⟨⟩
theorem J1.tw9425029681577787395 : True := ⟨⟩
theorem J1.tw9503039523372817643 : True := ⟨⟩
theorem J1.tw450694092534177872 : True := ⟨⟩
theorem J1.tw2491429154206607594 : True := ⟨⟩
theorem J1.tw7553935831367646681 : True := ⟨⟩
theorem J1.tw10412682536333916761 : True := ⟨⟩
theorem J1.tw7654585600341096002 : True := ⟨⟩
theorem J1.tw18052353187262265095 : True := ⟨⟩
theorem J1.tw12293516747052041312 : True := ⟨⟩
theorem J1.tw7542955078359103018 : True := ⟨⟩
theorem J1.tw778691384856563987 : True := ⟨⟩
theorem J1.tw5599206801663505389 : True := ⟨⟩
theorem J1.tw2034900271299139306 : True := ⟨⟩
theorem J1.tw4755484004009694271 : True := ⟨⟩
theorem J1.tw18024131556155978953 : True := ⟨⟩
theorem J1.tw6704972393996166033 : True := ⟨⟩
theorem J1.tw6501693517501611769 : True := ⟨⟩
theorem J1.tw9764379719729903567 : True := ⟨⟩
theorem J1.tw3511325065458036393 : True := ⟨⟩
theorem J1.tw15991033247683754242 : True := ⟨⟩
theorem J1.tw577062327599300528 : True := ⟨⟩
theorem J1.tw15188125216726037497 : True := ⟨⟩
theorem J1.tw13151938504969756153 : True := ⟨⟩
theorem J1.tw15666049021428326095 : True := ⟨⟩
theorem J1.tw9458339025630936225 : True := ⟨⟩
theorem J1.tw2217069362148731109 : True := ⟨⟩
theorem J1.tw4599052614337857886 : True := ⟨⟩
theorem J1.tw557397936519234114 : True := ⟨⟩
theorem J1.tw3738806902859188265 : True := ⟨⟩
theorem J1.tw13419664406872181135 : True := ⟨⟩
theorem J1.tw10110510749810588289 : True := ⟨⟩
theorem J1.tw6548109061916086127 : True := ⟨⟩
theorem J1.tw13439147111440822156 : True := ⟨⟩
theorem J1.tw11547951581614061524 : True := ⟨⟩
theorem J1.tw18003683597279552507 : True := ⟨⟩
theorem J1.tw7060978423824467869 : True := ⟨⟩
theorem J1.tw4070389322570678751 : True := ⟨⟩
theorem J1.tw5881482656467267548 : True := ⟨⟩
theorem J1.tw160013830305415903 : True := ⟨⟩
theorem J1.tw17833992338625885715 : True := ⟨⟩
theorem J1.tw339348955548354187 : True := ⟨⟩
theorem J1.tw11237475708628200461 : True := ⟨⟩
theorem J1.tw196711221582332624 : True := ⟨⟩
theorem J1.tw4251452694381367833 : True := ⟨⟩
theorem J1.tw6214748478524083955 : True := ⟨⟩
theorem J1.tw1361175363294901857 : True := ⟨⟩
theorem J1.tw957574115975586911 : True := ⟨⟩
theorem J1.tw12292671686529502663 : True := ⟨⟩
theorem J1.tw15174739987551879711 : True := ⟨⟩
theorem J1.tw4522884601983717212 : True := ⟨⟩
theorem J1.tw13727708650373377718 : True := ⟨⟩
theorem J1.tw16823198681432457541 : True := ⟨⟩
theorem J1.tw17157198108623783779 : True := ⟨⟩
theorem J1.tw8492573700900623520 : True := ⟨⟩
theorem J1.tw6826352350796416087 : True := ⟨⟩
theorem J1.tw15104809255716000333 : True := ⟨⟩
theorem J1.tw6426162614146796545 : True := ⟨⟩
theorem J1.tw5317702951776622782 : True := ⟨⟩
theorem J1.tw6999085969497841489 : True := ⟨⟩
theorem J1.tw11149473198351759751 : True := ⟨⟩
theorem J1.tw16352451643140479962 : True := ⟨⟩
theorem J1.tw3331163054604021510 : True := ⟨⟩
theorem J1.tw16651087757830575800 : True := ⟨⟩
theorem J1.tw6719017746710775328 : True := ⟨⟩
theorem J1.tw5847641741081173343 : True := ⟨⟩
theorem J1.tw10825402713543218459 : True := ⟨⟩
theorem J1.tw3918516014765516324 : True := ⟨⟩
theorem J1.tw13023062812291265563 : True := ⟨⟩
theorem J1.tw11630458829428009873 : True := ⟨⟩
theorem J1.tw1484642194154403714 : True := ⟨⟩
theorem J1.tw5715168720775537559 : True := ⟨⟩
theorem J1.tw6991636842413306628 : True := ⟨⟩
theorem J1.tw6533425439493487468 : True := ⟨⟩
theorem J1.tw2036114935448541199 : True := ⟨⟩
theorem J1.tw12156621625433972834 : True := ⟨⟩
theorem J1.tw6086322098966431584 : True := ⟨⟩
theorem J1.tw13725719754328602947 : True := ⟨⟩
theorem J1.tw11115872743717628976 : True := ⟨⟩
theorem J1.tw8550175148328983870 : True := ⟨⟩
theorem J1.tw2953370067278759977 : True := ⟨⟩
theorem J1.tw3491235729682331683 : True := ⟨⟩
theorem J1.tw12479022429963994801 : True := ⟨⟩
theorem J1.tw15529331642959435744 : True := ⟨⟩
theorem J1.tw15836493238365880992 : True := ⟨⟩
theorem J1.tw18428312503687305745 : True := ⟨⟩
theorem J1.tw172211022246175507 : True := ⟨⟩
theorem J1.tw15661181221953596526 : True := ⟨⟩
theorem J1.tw12348943096919895970 : True := ⟨⟩
theorem J1.tw18126753395494921441 : True := ⟨⟩
theorem J1.tw9607765092448432296 : True := ⟨⟩
theorem J1.tw9171939880407248394 : True := ⟨⟩
theorem J1.tw6146761328890728754 : True := ⟨⟩
theorem J1.tw1834700506813859994 : True := ⟨⟩
theorem J1.tw5996639222452227175 : True := ⟨⟩
theorem J1.tw13433785336765670262 : True := ⟨⟩
theorem J1.tw4187144939805265171 : True := ⟨⟩
theorem J1.tw2648369510424542184 : True := ⟨⟩
theorem J1.tw3221693296229114060 : True := ⟨⟩
theorem J1.tw9631843083062937461 : True := ⟨⟩
theorem J1.tw5457953943642776717 : True := ⟨⟩
theorem J1.tw395612055101857017 : True := ⟨⟩
theorem J1.tw10529709928066066648 : True := ⟨⟩
theorem J1.tw18332748707759864521 : True := ⟨⟩
theorem J1.tw5650574504842695895 : True := ⟨⟩
theorem J1.tw14981664746465242816 : True := ⟨⟩
theorem J1.tw11281516405842364341 : True := ⟨⟩
theorem J1.tw9412656238175054365 : True := ⟨⟩
theorem J1.tw11685698353285039701 : True := ⟨⟩
theorem J1.tw8828509757525978215 : True := ⟨⟩
theorem J1.tw9447856012784326315 : True := ⟨⟩
theorem J1.tw3550213699556089168 : True := ⟨⟩
theorem J1.tw8236834649085961863 : True := ⟨⟩
theorem J1.tw13573923634485476703 : True := ⟨⟩
theorem J1.tw4260937658365669285 : True := ⟨⟩
theorem J1.tw10842596674359370132 : True := ⟨⟩
theorem J1.tw15436850538958870773 : True := ⟨⟩
theorem J1.tw6536985287219787532 : True := ⟨⟩
theorem J1.tw311771682051643182 : True := ⟨⟩
theorem J1.tw267319354671601360 : True := ⟨⟩
theorem J1.tw9160268128064048978 : True := ⟨⟩
theorem J1.tw17521213476043025131 : True := ⟨⟩
theorem J1.tw10852471017068570434 : True := ⟨⟩
theorem J1.tw5078251276503427236 : True := ⟨⟩
theorem J1.tw8872742296160572920 : True := ⟨⟩
theorem J1.tw2991356979359422852 : True := ⟨⟩
theorem J1.tw6394480822582884246 : True := ⟨⟩
theorem J1.tw122495603723013179 : True := ⟨⟩
theorem J1.tw13838065989528380841 : True := ⟨⟩
theorem J1.tw12338894042192585060 : True := ⟨⟩
theorem J1.tw11066851461930128177 : True := ⟨⟩
theorem J1.tw13701275910095237691 : True := ⟨⟩
theorem J1.tw6148114521709443315 : True := ⟨⟩
theorem J1.tw14557844451632141399 : True := ⟨⟩
theorem J1.tw2335266407448955766 : True := ⟨⟩
theorem J1.tw10769029457691664654 : True := ⟨⟩
theorem J1.tw11493940349664667634 : True := ⟨⟩
theorem J1.tw11307203062863388683 : True := ⟨⟩
theorem J1.tw10372433556037299752 : True := ⟨⟩
theorem J1.tw9190565821539416595 : True := ⟨⟩
theorem J1.tw18259603229924644568 : True := ⟨⟩
theorem J1.tw13099612239251697246 : True := ⟨⟩
theorem J1.tw3020507077281483359 : True := ⟨⟩
theorem J1.tw9450427531105536474 : True := ⟨⟩
theorem J1.tw16553579720933886736 : True := ⟨⟩
theorem J1.tw6374124399059983605 : True := ⟨⟩
theorem J1.tw8818048336257452997 : True := ⟨⟩
theorem J1.tw1444227359724599407 : True := ⟨⟩
theorem J1.tw11948167232077947466 : True := ⟨⟩
theorem J1.tw14756865806227014509 : True := ⟨⟩
theorem J1.tw884620293788553394 : True := ⟨⟩
theorem J1.tw5074661113573003212 : True := ⟨⟩
theorem J1.tw4275267190177505946 : True := ⟨⟩
theorem J1.tw7298292166642422146 : True := ⟨⟩
theorem J1.tw1247361958949078871 : True := ⟨⟩
theorem J1.tw294774215711535793 : True := ⟨⟩
theorem J1.tw5897906026769796058 : True := ⟨⟩
theorem J1.tw8100577375832387735 : True := ⟨⟩
theorem J1.tw2974471075781355214 : True := ⟨⟩
theorem J1.tw1821911994186062312 : True := ⟨⟩
theorem J1.tw13956434918441540378 : True := ⟨⟩
theorem J1.tw11624578237518775558 : True := ⟨⟩
theorem J1.tw5361247584593683559 : True := ⟨⟩
theorem J1.tw5421249718107311668 : True := ⟨⟩
theorem J1.tw7255627853598593675 : True := ⟨⟩
theorem J1.tw1855621758315848589 : True := ⟨⟩
theorem J1.tw17273484068984518061 : True := ⟨⟩
theorem J1.tw9464507676141010328 : True := ⟨⟩
theorem J1.tw10344312743960087826 : True := ⟨⟩
theorem J1.tw6875768698710038529 : True := ⟨⟩
theorem J1.tw9008790050405795091 : True := ⟨⟩
theorem J1.tw11112915570509966783 : True := ⟨⟩
theorem J1.tw5482726400256955277 : True := ⟨⟩
theorem J1.tw13437677072111849553 : True := ⟨⟩
theorem J1.tw10667900574670504156 : True := ⟨⟩
theorem J1.tw8453835563862332700 : True := ⟨⟩
theorem J1.tw5699145549260267327 : True := ⟨⟩
theorem J1.tw17819281752162964570 : True := ⟨⟩
theorem J1.tw3171129082701412380 : True := ⟨⟩
theorem J1.tw11728628795316746522 : True := ⟨⟩
theorem J1.tw3088926478044454888 : True := ⟨⟩
theorem J1.tw18423809302310177142 : True := ⟨⟩
theorem J1.tw1427114956278824845 : True := ⟨⟩
theorem J1.tw17305610155745205968 : True := ⟨⟩
theorem J1.tw14555808406117146825 : True := ⟨⟩
theorem J1.tw16647708129661582723 : True := ⟨⟩
theorem J1.tw13065622132371235417 : True := ⟨⟩
theorem J1.tw1524843833343935561 : True := ⟨⟩
theorem J1.tw15867936948356568914 : True := ⟨⟩
theorem J1.tw12707853248381140157 : True := ⟨⟩
theorem J1.tw401971876069396021 : True := ⟨⟩
theorem J1.tw1853297034000971694 : True := ⟨⟩
theorem J1.tw9261412564711419050 : True := ⟨⟩
theorem J1.tw10556207294170205353 : True := ⟨⟩
theorem J1.tw1760616899006321912 : True := ⟨⟩
theorem J1.tw150294382156863930 : True := ⟨⟩
theorem J1.tw6253911076896329696 : True := ⟨⟩
theorem J1.tw14003352288910941638 : True := ⟨⟩
theorem J1.tw14587584880295956898 : True := ⟨⟩
theorem J1.tw12053611052730480903 : True := ⟨⟩
theorem J1.tw5244260734089049662 : True := ⟨⟩
theorem J1.tw13909668229587991633 : True := ⟨⟩
theorem J1.tw1525431651578238360 : True := ⟨⟩
theorem J1.tw15657931190767506304 : True := ⟨⟩
theorem J1.tw15319571049859957407 : True := ⟨⟩
theorem J1.tw11706198996591559545 : True := ⟨⟩
theorem J1.tw18342940288526454466 : True := ⟨⟩
theorem J1.tw5980164382292233863 : True := ⟨⟩
theorem J1.tw11598974190573218159 : True := ⟨⟩
theorem J1.tw758435705185260560 : True := ⟨⟩
theorem J1.tw4319707883939686711 : True := ⟨⟩
theorem J1.tw15647438438361031159 : True := ⟨⟩
theorem J1.tw3081654260777294270 : True := ⟨⟩
theorem J1.tw10395938997107429356 : True := ⟨⟩
theorem J1.tw7393892386561105529 : True := ⟨⟩
theorem J1.tw3435323162686389957 : True := ⟨⟩
theorem J1.tw14699141577603442545 : True := ⟨⟩
theorem J1.tw11487708940013516829 : True := ⟨⟩
theorem J1.tw14618230281576461234 : True := ⟨⟩
theorem J1.tw2004034349397035284 : True := ⟨⟩
theorem J1.tw144686554809626433 : True := ⟨⟩
theorem J1.tw3086423019163193323 : True := ⟨⟩
theorem J1.tw17406624151229843264 : True := ⟨⟩
theorem J1.tw14560229198673446744 : True := ⟨⟩
theorem J1.tw1085666318631264813 : True := ⟨⟩
theorem J1.tw12518247504547559047 : True := ⟨⟩
theorem J1.tw5954073039371593963 : True := ⟨⟩
theorem J1.tw11898297879621875677 : True := ⟨⟩
theorem J1.tw15461246551411904079 : True := ⟨⟩
theorem J1.tw4758390926351170037 : True := ⟨⟩
theorem J1.tw2203396505009851862 : True := ⟨⟩
theorem J1.tw14249289685513037824 : True := ⟨⟩
theorem J1.tw5880791616208305946 : True := ⟨⟩
theorem J1.tw13053732687729972754 : True := ⟨⟩
theorem J1.tw6834009964248613743 : True := ⟨⟩
theorem J1.tw8674829254083440208 : True := ⟨⟩
theorem J1.tw8464071259920421276 : True := ⟨⟩
theorem J1.tw15302288036725298915 : True := ⟨⟩
theorem J1.tw407549923362989831 : True := ⟨⟩
theorem J1.tw10701239190965250031 : True := ⟨⟩
theorem J1.tw16859087074487420542 : True := ⟨⟩
theorem J1.tw1102769631647174874 : True := ⟨⟩
theorem J1.tw8593157326914194367 : True := ⟨⟩
theorem J1.tw17526139490954632292 : True := ⟨⟩
theorem J1.tw8398327101310809115 : True := ⟨⟩
theorem J1.tw3893358625381376346 : True := ⟨⟩
theorem J1.tw975973324693927149 : True := ⟨⟩
theorem J1.tw11632500083650790531 : True := ⟨⟩
theorem J1.tw9265177353257845674 : True := ⟨⟩
theorem J1.tw6558521337373897157 : True := ⟨⟩
theorem J1.tw17257469767075960378 : True := ⟨⟩
theorem J1.tw17455833884516624677 : True := ⟨⟩
theorem J1.tw2901277478773360280 : True := ⟨⟩
theorem J1.tw17964244167834242802 : True := ⟨⟩
theorem J1.tw12697535908899113651 : True := ⟨⟩
theorem J1.tw7848591741568898154 : True := ⟨⟩
theorem J1.tw17615440023069201856 : True := ⟨⟩
theorem J1.tw5660642125897082406 : True := ⟨⟩
theorem J1.tw1054757255913665014 : True := ⟨⟩
theorem J1.tw9914895548982448312 : True := ⟨⟩
theorem J1.tw7493832495254178304 : True := ⟨⟩
theorem J1.tw8040868456718860781 : True := ⟨⟩
theorem J1.tw2525706733088872249 : True := ⟨⟩
theorem J1.tw17781790169347819470 : True := ⟨⟩
theorem J1.tw13493149648047684258 : True := ⟨⟩
theorem J1.tw1379469416655863271 : True := ⟨⟩
theorem J1.tw7171216981839255634 : True := ⟨⟩
theorem J1.tw10877779032422574443 : True := ⟨⟩
theorem J1.tw826582760259728719 : True := ⟨⟩
theorem J1.tw16233391167127510993 : True := ⟨⟩
theorem J1.tw1762151290890902630 : True := ⟨⟩
theorem J1.tw463500229753244831 : True := ⟨⟩
theorem J1.tw15852557052921184559 : True := ⟨⟩
theorem J1.tw6974977821307374870 : True := ⟨⟩
theorem J1.tw14935944912398739123 : True := ⟨⟩
theorem J1.tw10704143470531863577 : True := ⟨⟩
theorem J1.tw8125418167364065778 : True := ⟨⟩
theorem J1.tw8084881825782980268 : True := ⟨⟩
theorem J1.tw8049385349133788128 : True := ⟨⟩
theorem J1.tw13159792224984989041 : True := ⟨⟩
theorem J1.tw10115265209310017686 : True := ⟨⟩
theorem J1.tw14138402641257559256 : True := ⟨⟩
theorem J1.tw5355993824623301493 : True := ⟨⟩
theorem J1.tw2398345487912419733 : True := ⟨⟩
theorem J1.tw14492403506161685752 : True := ⟨⟩
theorem J1.tw14830133297531570259 : True := ⟨⟩
theorem J1.tw1446198340056349956 : True := ⟨⟩
theorem J1.tw4727631063034132963 : True := ⟨⟩
theorem J1.tw9216549879999032846 : True := ⟨⟩
theorem J1.tw15385573949948939815 : True := ⟨⟩
theorem J1.tw6681648413685684680 : True := ⟨⟩
theorem J1.tw16049874680262907176 : True := ⟨⟩
theorem J1.tw7877194889838530162 : True := ⟨⟩
theorem J1.tw14817650076371509561 : True := ⟨⟩
theorem J1.tw7167394799739609418 : True := ⟨⟩
theorem J1.tw16846359911161098442 : True := ⟨⟩
theorem J1.tw13799559220761202082 : True := ⟨⟩
theorem J1.tw12660219898583733296 : True := ⟨⟩
theorem J1.tw15525116458213776900 : True := ⟨⟩
theorem J1.tw11922386738968068001 : True := ⟨⟩
theorem J1.tw13132004788912106012 : True := ⟨⟩
theorem J1.tw17425341834987270494 : True := ⟨⟩
theorem J1.tw3121604937535890958 : True := ⟨⟩
theorem J1.tw17319057228259914100 : True := ⟨⟩
theorem J1.tw5789686172128851216 : True := ⟨⟩
theorem J1.tw12670754455463933994 : True := ⟨⟩
theorem J1.tw8586758396517898430 : True := ⟨⟩
theorem J1.tw14271431856274608479 : True := ⟨⟩
theorem J1.tw5710289144039349518 : True := ⟨⟩
theorem J1.tw7730978323303610273 : True := ⟨⟩
theorem J1.tw4971251408162301620 : True := ⟨⟩
theorem J1.tw10248785117332627171 : True := ⟨⟩
theorem J1.tw2887630745080745356 : True := ⟨⟩
theorem J1.tw10051984972286390427 : True := ⟨⟩
theorem J1.tw8982854542244722217 : True := ⟨⟩
theorem J1.tw2873226512435366110 : True := ⟨⟩
theorem J1.tw4060620666167932255 : True := ⟨⟩
theorem J1.tw10679176853596088766 : True := ⟨⟩
theorem J1.tw8163661276465482031 : True := ⟨⟩
theorem J1.tw6471093937973522568 : True := ⟨⟩
theorem J1.tw15948513796590075314 : True := ⟨⟩
theorem J1.tw11396285130552256450 : True := ⟨⟩
theorem J1.tw9989808466816387038 : True := ⟨⟩
theorem J1.tw1440806144826726260 : True := ⟨⟩
theorem J1.tw12957222966061392039 : True := ⟨⟩
theorem J1.tw16052460112283065429 : True := ⟨⟩
theorem J1.tw8434988887096347766 : True := ⟨⟩
theorem J1.tw12313509320656567958 : True := ⟨⟩
theorem J1.tw6068050086044383731 : True := ⟨⟩
theorem J1.tw14240167474990366118 : True := ⟨⟩
theorem J1.tw5927901437541573910 : True := ⟨⟩
theorem J1.tw13363529329980020123 : True := ⟨⟩
theorem J1.tw3121927545065775190 : True := ⟨⟩
theorem J1.tw13926394446922752977 : True := ⟨⟩
theorem J1.tw12998730837986053935 : True := ⟨⟩
theorem J1.tw6217245449030687806 : True := ⟨⟩
theorem J1.tw8424182273770762166 : True := ⟨⟩
theorem J1.tw2058469324357113676 : True := ⟨⟩
theorem J1.tw4255024045410344890 : True := ⟨⟩
theorem J1.tw10466643706259359832 : True := ⟨⟩
theorem J1.tw7705355410893411907 : True := ⟨⟩
theorem J1.tw10869353345605800613 : True := ⟨⟩
theorem J1.tw7210429579905550862 : True := ⟨⟩
theorem J1.tw4874385873786496155 : True := ⟨⟩
theorem J1.tw4375393954492922515 : True := ⟨⟩
theorem J1.tw17880793767467831232 : True := ⟨⟩
theorem J1.tw17270595453811254520 : True := ⟨⟩
theorem J1.tw15225746799729013168 : True := ⟨⟩
theorem J1.tw17119676144851994656 : True := ⟨⟩
theorem J1.tw7547610506602889939 : True := ⟨⟩
theorem J1.tw16850642337708933034 : True := ⟨⟩
theorem J1.tw5348833087591907373 : True := ⟨⟩
theorem J1.tw15617722987763881874 : True := ⟨⟩
theorem J1.tw12996926253475476188 : True := ⟨⟩
theorem J1.tw357486453476387696 : True := ⟨⟩
local macro_rules | `(tactic| refine $f:ident $args*) => (if f.getId == `PySem.W.holds_open then `(tactic| refine Mine.head_C $args*) else Lean.Macro.throwUnsupported)
set_option Elab.async true in
theorem J1 : PySem.Challenge.rw_ke0006_01.Holds := by
  w_on
  o_law
  o_head (kmHook hd.heap_1 [2, 3, 43, 44, 45, 46, 47, 48, 49, 50, 51, 52, 59, 60, 61, 62, 63, 66, 73, 74, 75, 76, 77, 80, 87, 88, 89, 90, 91, 94, 101, 102, 103, 104, 105, 108, 115, 116, 117, 118, 119, 122, 129, 130, 131, 132, 133, 136, 143, 144, 145, 146, 147, 150, 157, 158, 159, 160, 161, 164, 171, 172, 173, 174, 175, 178, 185, 186, 187, 190, 197, 198, 199, 202, 209, 210, 211, 214, 216, 217, 219, 220, 221, 223, 224, 226, 227, 228, 235, 236, 238, 239, 241, 242, 243, 245, 246, 248, 249, 250, 252, 253, 255, 256, 257, 259, 260, 262, 263, 264, 266, 267, 269, 270, 271, 273, 274, 276, 277, 278, 280, 281, 283, 284, 285, 287, 288, 290, 291, 292, 294, 295, 297, 298, 299, 301, 302, 304, 305, 306, 308, 309, 310, 311, 314, 316, 317, 319, 320, 321, 323, 324, 326, 327, 328, 331, 332, 333, 335, 336, 338, 339, 340, 342, 343, 345, 346, 347, 349, 350, 352, 353, 354, 356, 357, 359, 360, 361, 363, 364, 366, 367, 368, 370, 371, 373, 374, 375, 377, 378, 380, 381, 382, 384, 385, 387, 388, 389, 391, 392, 394, 395, 396, 398, 399, 401, 402, 403, 405, 406, 408, 409] (fun _ => by kernel_rfl) [404])
  (case hw => w_witness2)
  exact walk
end
end Mine
theorem PySem.Challenge.cw_ke0006_01_holds : PySem.Challenge.rw_ke0006_01.Holds :=
  Mine.J1
