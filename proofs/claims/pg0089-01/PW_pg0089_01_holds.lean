import PyProof.Rows.All
import Wide.All
import OpenK.AllK
import Wide.FinOn
import PySem.Challenge.RW_pg0089_01
open PySem PySem.W PyProof.Rows PySem.Spec PySem.Calls
set_option Elab.async false
namespace Mine
/-! Core -/
section
set_option maxRecDepth 100000

/-- no frame of a decoder that holds its argument: what `exported` looks for on the stack beside the guards -/
def okCode : Code → Bool
  | .builtin id _ => !Builtin.Bytes.decodersThatHold.contains id
  | _ => true
def BelowOk (Γ : PySem.Ctx) : Prop := ∀ x ∈ Γ.below, okCode x.1 = true
def Cl (Γ : PySem.Ctx) : Prop := okCode Γ.code = true ∧ BelowOk Γ

def wpC {α : Type} (M : Model) (A : Around) (t : Sem α) (Q : α → Shared → Prop) (E : Value → Shared → Prop) (s : Shared) : Prop :=
  ∀ (Γ : PySem.Ctx) p, Γ.In A → Cl Γ → Sem.wp M Γ t (fun a _ s' => Q a s') (fun e _ s' => E e s') p s
def codeC (M : Model) (A : Around) (c : Code) (R : Result → Shared → Prop) (s : Shared) : Prop :=
  ∀ (Γ : PySem.Ctx) p, Γ.code = c → Γ.Below A → BelowOk Γ → wpCode M Γ R p s

section
variable {α β : Type} {M : Model} {A : Around} {E : Value → Shared → Prop} {s : Shared}

theorem wpC_of_any {t : Sem α} {Q : α → Shared → Prop} (h : wpAny M A t Q E s) : wpC M A t Q E s := fun Γ p hΓ _ => h Γ p hΓ
theorem codeC_of_any {c : Code} {R : Result → Shared → Prop} (h : codeAny M A c R s) : codeC M A c R s := fun Γ p hc hΓ _ => h Γ p hc hΓ
theorem wpC_pure {a : α} {Q : α → Shared → Prop} (h : Q a s) : wpC M A (pure a) Q E s := fun _ _ _ _ => h
theorem wpC_mono {t : Sem α} {Q Q' : α → Shared → Prop} {E' : Value → Shared → Prop} (h : wpC M A t Q E s)
    (hQ : ∀ a s, Q a s → Q' a s) (hE : ∀ e s, E e s → E' e s) : wpC M A t Q' E' s :=
  fun Γ p hΓ hc => Sem.wp_mono M Γ t (fun a _ s => hQ a s) (fun e _ s => hE e s) p s (h Γ p hΓ hc)
theorem wpC_bind {m : Sem α} {f : α → Sem β} {Q : β → Shared → Prop} (h : wpC M A m (fun a s' => wpC M A (f a) Q E s') E s) :
    wpC M A (m >>= f) Q E s := fun Γ p hΓ hc => by
  rw [Sem.wp_bind']
  exact Sem.wp_mono M Γ m (fun a p' s' h' => h' Γ p' hΓ hc) (fun _ _ _ h' => h') p s (h Γ p hΓ hc)
/-- a tree that the library's logic serves, what follows in the clean one -/
theorem wpC_seq {m : Sem α} {f : α → Sem β} {Q : β → Shared → Prop} (h : wpAny M A m (fun a s' => wpC M A (f a) Q E s') E s) :
    wpC M A (m >>= f) Q E s := wpC_bind (wpC_of_any h)
theorem wpC_holding {vs : List Value} {m : Sem α} {Q : α → Shared → Prop} (h : wpC M A m Q E s) : wpC M A (holding vs m) Q E s :=
  fun Γ p hΓ hc => by rw [Sem.wp_holding]; exact h Γ p hΓ hc
theorem wpC_onRaise {m : Sem α} {k : Value → Sem Unit} {Q : α → Shared → Prop}
    (h : wpC M A m Q (fun e s' => wpC M A (k e) (fun _ s'' => E e s'') E s') s) : wpC M A (m.onRaise k) Q E s := fun Γ p hΓ hc => by
  rw [Sem.wp_onRaise]
  exact Sem.wp_mono M Γ m (fun _ _ _ h' => h') (fun e p' s' h' => h' Γ p' hΓ hc) p s (h Γ p hΓ hc)
theorem codeC_mono {c : Code} {R R' : Result → Shared → Prop} (h : codeC M A c R s) (hR : ∀ r s, R r s → R' r s) : codeC M A c R' s :=
  fun Γ p hc hΓ hb => wpCode_mono hR (h Γ p hc hΓ hb)

theorem enter_ok {Γ : PySem.Ctx} (hc : Cl Γ) (c : Code) (h : Option Value) (p : Pos) : BelowOk (Γ.enter c h p) := fun x hx => by
  rcases List.mem_cons.mp hx with rfl | hx
  · exact hc.1
  · exact hc.2 x hx
theorem wpC_run {c : Code} {h : Option Value} {Q : Flow → Shared → Prop}
    (hc : codeC M (A.mark h) c (fun r s' => match r with | .ok f => Q f s' | .error e => E e s') s) (hnb : h ≠ some byPass := by intro x; cases x) :
    wpC M A (run c h) Q E s :=
  fun Γ p hΓ hcl => by rw [Sem.wp_run]; exact hc _ p rfl (hΓ.enter c h p hnb) (enter_ok hcl _ _ _)
theorem wpC_runValue {c : Code} {Q : Value → Shared → Prop}
    (hc : codeC M A c (fun r s' => match r with | .ok (.ret v) => Q v s' | .ok _ => False | .error e => E e s') s) :
    wpC M A (runValue c) Q E s := fun Γ p hΓ hcl => by rw [Sem.wp_runValue]; exact hc _ p rfl (hΓ.enter c none p (by intro x; cases x)) (enter_ok hcl _ _ _)
theorem wpC_call {f : Value} {pos : List Value} {kw : List (Str × Value)} {Q : Value → Shared → Prop}
    (hc : codeC M A (.call f ⟨pos, kw⟩) (fun r s' => match r with | .ok (.ret v) => Q v s' | .ok _ => False | .error e => E e s') s) :
    wpC M A (call f pos kw) Q E s := wpC_runValue hc
theorem codeC_of_tree {c : Code} {R : Result → Shared → Prop}
    (h : wpC M (A.under c) (M.den c) (fun fin s' => match fin with | .done f => R (.ok f) s' | .again c' => c'.quiet = true ∧ codeC M A c' R s')
      (fun e s' => R (.error e) s') s) (ok : okCode c = true := by rfl) : codeC M A c R s := fun Γ p hc hΓ hb => by
  rw [wpCode_iff_wp, hc]
  refine Sem.wp_mono M Γ _ (fun fin p' s' h' => ?_) (fun _ _ _ h' => h') p s (h Γ p (hc ▸ hΓ.in) ⟨by rw [hc]; exact ok, hb⟩)
  cases fin with
  | done f => exact h'
  | again c' => exact ⟨h'.1, h'.2 (Γ.goto c') p' rfl (hΓ.goto c') hb⟩
theorem codeC_loop {c : Code} {R : Result → Shared → Prop} (hq : c.quiet = true) (I : Nat → Shared → Prop)
    (turn : ∀ n s, I n s → wpC M (A.under c) (M.den c)
      (fun fin s' => match fin with
        | .done f => R (.ok f) s'
        | .again c' => (c' = c ∧ ∃ m, m < n ∧ I m s') ∨ (c'.quiet = true ∧ codeC M A c' R s')) (fun e s' => R (.error e) s') s)
    (n : Nat) (h : I n s) (ok : okCode c = true := by rfl) : codeC M A c R s := by
  induction n using Nat.strongRecOn generalizing s with
  | ind n ih =>
    refine codeC_of_tree (wpC_mono (turn n s h) (fun fin s' hf => ?_) fun _ _ h' => h') ok
    cases fin with
    | done f => exact hf
    | again c' =>
      rcases hf with ⟨rfl, m, hm, hI⟩ | hf
      · exact ⟨hq, ih m hm hI⟩
      · exact hf
end

section
variable {prog : Program} {w : World} {A : Around} {s : Shared} {R : Result → Shared → Prop}
theorem codeC_builtin {id : String} {args : Args} {b : Builtin} (hb : entryFor table id = some b) (ok : okCode (.builtin id args) = true)
    (h : wpC (model prog w) (A.under (.builtin id args)) (b args)
      (fun fin s' => match fin with | .done f => R (.ok f) s' | .again c' => c'.quiet = true ∧ codeC (model prog w) A c' R s') (fun e s' => R (.error e) s') s) :
    codeC (model prog w) A (.builtin id args) R s := by
  refine codeC_of_tree ?_ ok
  show wpC _ _ (match entryFor table id with | some b => b args | none => unsupported ((withoutEnding? id "#data").getD id)) _ _ s
  rw [hb]; exact h
theorem codeC_call_builtin {id : String} {args : Args} {b : Builtin} (hq : plainId id = true) (hb : entryFor table id = some b) (ok : okCode (.builtin id args) = true)
    (h : wpAny (model prog w) A.in1 (checkBuiltinCall id args) (fun _ s₁ => wpC (model prog w) A.in1 (b args)
      (fun fin s' => match fin with | .done f => R (.ok f) s' | .again c' => c'.quiet = true ∧ codeC (model prog w) A c' R s') (fun e s' => R (.error e) s') s₁)
      (fun e s' => R (.error e) s') s) : codeC (model prog w) A (.call (.builtin id) args) R s := by
  refine codeC_of_tree ?_
  show wpC _ A.in1 (do checkBuiltinCall id args; again (.builtin id args)) _ _ s
  refine wpC_seq (wpAny_mono h (fun _ s₁ h₁ => wpC_pure (And.intro (plainId_quiet hq args) (codeC_builtin hb ok ?_))) fun _ _ h' => h')
  rw [Around.under_plainId hq args]; exact h₁
end

section
variable {M : Model} {A : Around} {E : Value → Shared → Prop} {s : Shared} {env : Env}
theorem wpC_execs_nil {Q : Flow → Shared → Prop} (h : Q .next s) : wpC M A (execs [] env) Q E s := fun _ _ _ _ => h
theorem wpC_execs_cons {st rest} {Q : Flow → Shared → Prop}
    (h : wpC M A (exec st env) (fun f s' => match f with | .next => wpC M A (execs rest env) Q E s' | f => Q f s') E s) :
    wpC M A (execs (st :: rest) env) Q E s := fun Γ p hΓ hc => by
  rw [execs_cons, Sem.wp_bind']
  refine Sem.wp_mono M Γ _ (fun f p' s' h' => ?_) (fun _ _ _ h' => h') _ _ (h Γ p hΓ hc)
  cases f <;> first | exact h' Γ p' hΓ hc | exact h'
/-- the next statement in the library's logic -/
theorem wpC_next {st rest} {Q : Flow → Shared → Prop}
    (h : wpAny M A (exec st env) (fun f s' => match f with | .next => wpC M A (execs rest env) Q E s' | f => Q f s') E s) :
    wpC M A (execs (st :: rest) env) Q E s := wpC_execs_cons (wpC_of_any h)
theorem wpC_Assign_Name {x pos' value pos} {Q : Flow → Shared → Prop}
    (h : wpC M A (eval value env) (fun v s₁ => wpAny M A (storeName env x v) (fun _ => Q .next) E s₁) E s)
    (hs : swapsWith value (some (.Name x pos')) pos.line env = pure false := by rfl) :
    wpC M A (exec (.Assign [.Name x pos'] value pos) env) Q E s := fun Γ p hΓ hc => by
  simp only [exec_Assign_Name env x pos' value pos hs, Sem.wp_bind', Sem.wp_cmd_standAt, Sem.wp_bindName, Sem.wp_pure']
  exact Sem.wp_mono M Γ _ (fun v _ s₁ h₁ => h₁ Γ _ hΓ) (fun _ _ _ h' => h') _ _ (h Γ _ hΓ hc)
theorem wpC_Return_some {e pos} {Q : Flow → Shared → Prop} (h : wpC M A (eval e env) (fun v => Q (.ret v)) E s) :
    wpC M A (exec (.Return (some e) pos) env) Q E s := fun Γ p hΓ hc => by
  simp only [exec_Return_some, Sem.wp_bind', Sem.wp_cmd_standAt, Sem.wp_pure']; exact h Γ _ hΓ hc
theorem wpC_BinOp {l op r pos} {Q : Value → Shared → Prop}
    (h : wpC M A (eval l env) (fun a s₁ => wpC M A (eval r env) (fun b s₂ => wpAny M A (binaryOp op a b) Q E s₂) E s₁) E s) :
    wpC M A (eval (.BinOp l op r pos) env) Q E s := fun Γ p hΓ hc => by
  simp only [eval_BinOp, Sem.wp_bind', Sem.wp_holding, Sem.wp_cmd_standAt, Sem.wp_operate]
  exact Sem.wp_mono M Γ _ (fun a p₁ s₁ h₁ => Sem.wp_mono M Γ _ (fun b _ s₂ h₂ => h₂ Γ _ hΓ) (fun _ _ _ h' => h') _ _ (h₁ Γ p₁ hΓ hc))
    (fun _ _ _ h' => h') _ _ (h Γ p hΓ hc)
theorem wpC_Compare1 {l op r pos} {Q : Value → Shared → Prop}
    (h : wpC M A (eval l env) (fun a s₁ => wpC M A (eval r env) (fun b s₂ => wpAny M A (compareOp op a b) Q E s₂) E s₁) E s)
    (hm : behindInMarks op r = false := by with_unfolding_all rfl) :
    wpC M A (eval (.Compare l [op] [r] pos) env) Q E s := fun Γ p hΓ hc => by
  simp only [eval_Compare1, markedBehindIn_of_false hm, Sem.wp_bind', Sem.wp_holding, Sem.wp_cmd_standAt, Sem.wp_operate]
  exact Sem.wp_mono M Γ _ (fun a p₁ s₁ h₁ => Sem.wp_mono M Γ _ (fun b _ s₂ h₂ => h₂ Γ _ hΓ) (fun _ _ _ h' => h') _ _ (h₁ Γ p₁ hΓ hc))
    (fun _ _ _ h' => h') _ _ (h Γ p hΓ hc)
end
end
/-! Head -/
section
set_option maxRecDepth 100000

theorem caller_clean : Cl ⟨.builtin "claim.caller" {}, none, none, [], none⟩ := ⟨by decide +kernel, fun _ hx => nomatch hx⟩

theorem ends_of_clean {prog : Program} {w : World} {t : Sem Fin} {s : Shared} {R : Result → Shared → Prop} (hreg : s.asleep)
    (h : wpC (model prog w) callerA t (fun fin s' => ∃ f, fin = .done f ∧ (R (.ok f) s' ∧ leftWithCleanup s'.gens = false)) (fun e s' => R (.error e) s' ∧ leftWithCleanup s'.gens = false) s) :
    ∃ n r s' s'', runN (denote table) prog w n s ⟨t, .builtin "claim.caller" {}, default, []⟩ = .halted (outcomeOf r) s' ∧
      schedN (denote table) prog w n (.single s ⟨t, .builtin "claim.caller" {}, default, []⟩) = .halted (outcomeOf r) s' ∧ s'.forget = s''.forget ∧ R r s'' := by
  have hw : Sem.wp (model prog w) ⟨.builtin "claim.caller" {}, none, none, [], none⟩ t
      (Sem.finPost (model prog w) ⟨.builtin "claim.caller" {}, none, none, [], none⟩ fun r s' => R r s' ∧ leftWithCleanup s'.gens = false)
      (fun e _ s' => R (.error e) s' ∧ leftWithCleanup s'.gens = false) default s := by
    refine Sem.wp_mono _ _ t (fun fin p' s' h' => ?_) (fun _ _ _ h' => h') default s (h _ default caller_in caller_clean)
    obtain ⟨f, rfl, hf⟩ := h'
    exact hf
  obtain ⟨n, r, s₁, s₂, hs, hn, hfo, hR⟩ := wp_halts_full (M := model prog w) (R := R) hreg hw
  exact ⟨n, r, s₂, s₁, hn, hs, hfo, hR⟩

/-- the walk's goal: as the library's, in the clean logic -/
abbrev WalkClean (q : Program) (loose : List Str) (XP : (Str → Option Value) → Heap → Prop) (YP : World → Heap → Prop) (r : RowW) (d : DefRec) (kwd : List (Str × Expr)) : Prop :=
  ∀ (w : World) (s₀ s₁ : Shared) (mg mb : Str → Option Value), Ground q loose r.records XP w s₀ mg mb s₁.heap → YP w s₁.heap → ∀ (a : Addr) (o : Obj) (pm cd doc dV kV : Value), s₁.heap.get? a = some o →
    o.data = .func { docDef d.name d.params d.body d.scope pm cd doc with defaults := dV, kwdefaults := kV } → s₁.heap.CodeRec cd d.name → Dflts mg s₁.heap d.params kwd dV kV → mg d.name = some (.ref a) → s₁.gens = #[] →
    ∀ (args : List WData) (vals : List Value) (as : List Addr), r.claim.pre args = true → WData.layableAll args = true → ReadsAllW r.records (classAt s₀.heap) s₁.heap vals args as → WellAll w.params s₁.heap vals args → (∀ a ∈ as, (a == sysModules) = false) →
      wpC (model r.prog w) callerA (PySem.call (.ref a) vals) (fun v s' => GoodWG r.claim (classAt s₀.heap) (ExcName.means s₀.heap) args s₁ (.ok (.ret v)) s')
        (fun e s' => GoodWG r.claim (classAt s₀.heap) (ExcName.means s₀.heap) args s₁ (.error e) s') s₁

theorem PySem.W.holds_open {r : OpenRow} {q : Program} {loose : List Str} {Xt : Shared → Bool} {XP : (Str → Option Value) → Heap → Prop} {α : Type} {Yf : Shared → α} {Ya : World → α} {YP : World → Heap → Prop} {d : DefRec} {kwd : List (Str × Expr)} {N : Nat}
    (left : LeftO r.prog q loose Xt Yf Ya N) (hY : ∀ w s, Yf s = Ya w → YP w s.heap) (hYk : ∀ w h h', YP w h → (∀ b o, h.get? b = some o → h'.get? b = some o) → YP w h')
    (hX : ∀ s, Xt s = true → XP (s.heap.nsMap mainGlobals) s.heap) (hXk : ∀ mg h h', XP mg h → (∀ b o, h.get? b = some o → h'.get? b = some o) → XP mg h')
    (hdef : defOf q r.name = some (d, kwd)) (hp : r.prog.theDef r.name = some (d.params, d.body, d.scope)) (hk : kwWritten? d.params.kwonlyargs d.params.kw_defaults = some kwd) (hRf : ∀ s, Xt s = true → RecFacts r.records s.heap) (hwr : (!r.writes || r.records.isEmpty) = true)
    (k1 : r.wellSaid = true) (ok : (chainsOk q && opensWell r.prog && (frees r.toRowW && r.within.isEmpty)) = true) (hb : r.prog.bare) (hw : r.toRowW.promised)
    (call : WalkClean q loose XP YP r.toRowW d kwd) : r.Holds := by
  refine ⟨k1, hw, ?_⟩
  obtain ⟨ok, k5⟩ := Bool.and_eq_true_iff.mp ok
  obtain ⟨hch, o1⟩ := Bool.and_eq_true_iff.mp ok
  obtain ⟨k5, k6⟩ := Bool.and_eq_true_iff.mp k5
  obtain ⟨hsame, hu, ha, hap, hm⟩ := frees_parts k5
  have hi := ident_freeW hu ha hap
  have hwi : r.toRowW.claim.within = [] := List.isEmpty_iff.mp k6
  refine ⟨⟨hb, o1, by show r.makers.map _ = []; rw [hm]; rfl⟩, hw.witness, fun w => ⟨(left.behind hX hch w).1, fun s' hs' => ?_⟩⟩
  obtain ⟨s₀, hf, hg0, s, hT, hz, hgens, hg, G00, y⟩ := (left.behind (XP := fun mg h => XP mg h ∧ RecFacts r.records h) (fun s hs => ⟨hX s hs, hRf s hs⟩) hch w).2 s' hs'
  have G0 : Ground q loose [] XP w s (s.heap.nsMap mainGlobals) (s.heap.nsMap builtinsNs) s.heap := ⟨G00.T, G00.B, G00.D, G00.TE, G00.TD, G00.W, G00.X.1, G00.cls, G00.has, G00.apart, G00.once, G00.K⟩
  have RF := G00.X.2
  have hgens : s.gens = #[] := Array.eq_empty_of_size_eq_zero (beq_iff_eq.mp hgens)
  have G : Ground q loose r.records XP w s _ _ s.heap := RF.ground G0
  refine ⟨s₀, hf, hg0, s, hT, fun n hn => ?_, RF.1, RF.2.1, ?_⟩
  · obtain rfl : n = r.name := by split at hn <;> simp_all
    exact pinned_of_view hg G0 hdef hp hk
  intro args hpre hlay ord hord
  obtain ⟨⟨vs, s₁⟩, hlaid⟩ := Option.isSome_iff_exists.mp (layAllW_isSome (P := w.params) (ord := ord) G.has args r.args s (pre_splitW hpre).1)
  have keeps := layAllW_keeps _ _ _ hlaid
  have hal := layAllW_rest _ _ _ hlaid
  obtain ⟨as, hrd, hin, hold⟩ := reads_layAllW hord _ _ _ hlaid hlay s₁.heap (fun _ _ e => e)
  have L : Laid r.records w s s₁ args vs as := ⟨⟨ord, hord, hlaid⟩, hrd, hin, hold, keeps, hal.1.trans hgens, hal.2.2.1⟩
  have G₁ := G.keeps hXk keeps
  obtain ⟨a, o, pm, cd, doc, dV, kV, h1, h2, h3, h4, h5⟩ := G₁.fn hdef
  have walk := call w s s₁ _ _ G₁ (hYk _ _ _ (hY w s y) keeps) a o pm cd doc dV kV h2 h3 h4 h5 (defOf_name hdef ▸ h1) L.gens args vs as hpre hlay L.reads L.well (L.low G.low)
  obtain ⟨k, e, s₂, s₃, hrun, hsched, hfo, hcase, hos, hkp⟩ := ends_of_clean (prog := r.prog) (w := w)
    (t := do match ← nsGet mainNs r.name with
      | some f => do ret (← PySem.call f vs)
      | none => unsupported "claim.caller:no-such-global") (s := s₁)
    (R := fun x s' => r.toRowW.claim.Ends s args vs s₁ x s' ∧ s'.os = s.os ∧ (r.writes = true → namesKept r.prog r.keeps s.heap s'.heap ∧ ∀ x ∈ r.records, ∀ a, classAt s.heap x.1 = some a → recordClass s'.heap a x.1 (x.2.map (·.1)) = true))
    (Shared.asleep_of_life hal.2.2.2 hz) (by
      refine wpC_seq (wpAny_nsGet G₁.T.g ?_)
      rw [h1]
      refine wpC_bind (wpC_mono walk (fun v s' g => wpC_pure ?_) fun e s' g => ?_)
      · have z := g.laid (c := r.toRowW.claim) hsame hwi hi L
        exact ⟨_, rfl, ⟨z.1, z.2.1, fun q => ⟨namesKept_of hT hg r.keeps keeps g.2.1.old, noTable hwr q⟩⟩, leftWithCleanup_false_of_bare z.2.2⟩
      · have z := g.laid (c := r.toRowW.claim) hsame hwi hi L
        exact ⟨⟨z.1, z.2.1, fun q => ⟨namesKept_of hT hg r.keeps keeps g.2.1.old, noTable hwr q⟩⟩, leftWithCleanup_false_of_bare z.2.2⟩)
  obtain ⟨eh, _, _, eo, _⟩ := Shared.forget_eq hfo
  have hcase := hcase.congr eh
  rw [← eh] at hkp
  rw [← eo] at hos
  have hlife : s₂.heap.life = s.heap.life := (runN_life _ _ _ hrun).trans hal.2.2.2
  refine ⟨vs, s₁, hlaid, k, _, s₂, hsched, ?_, (fun _ i x hx => by rw [hgens] at hx; simp at hx), hkp, by rw [hlife], Shared.rest_eq hos⟩
  rcases hcase with ⟨v, rfl, d1, d2, d3, d4, d5⟩ | ⟨e, ob, cls, rfl, d1, d2, d3, d4, d5⟩
  · exact .inl ⟨v, rfl, d1, d2, d3, fun b o y _ => d4 b o y, d5⟩
  · exact .inr ⟨e, ob, cls, rfl, d1, d2, d3, d4, fun b o y _ => d5 b o y⟩
end
/-! Byt -/
section
set_option maxRecDepth 100000
set_option maxHeartbeats 4000000
theorem mro_ba : mroOf (.type "bytearray") = pure [.type "bytearray", .type "object"] := by rw [mroOf_type]; kernel_rfl
theorem lookup_ba_new : typeLookup (.type "bytearray") "__new__" = pure (some (.builtin "bytearray.__new__")) := by rw [typeLookup_type, builtinLookup_eq_fast]; kernel_rfl
theorem slot_ba_init : Slot "bytearray" "__init__" "bytearray.__init__" :=
  .of (owner := "bytearray") (n := "__init__") (by rw [typeLookup_type, builtinLookup_eq_fast]; kernel_rfl) (by decide +kernel) (by decide +kernel) (by decide +kernel)
    (by first | exact .inl (by decide +kernel) | exact .inr (by decide +kernel)) (by rw [isSubtype_type]; kernel_rfl)
theorem slot_ba_setitem : Slot "bytearray" "__setitem__" "bytearray.__setitem__" :=
  .of (owner := "bytearray") (n := "__setitem__") (by rw [typeLookup_type, builtinLookup_eq_fast]; kernel_rfl) (by decide +kernel) (by decide +kernel) (by decide +kernel)
    (by first | exact .inl (by decide +kernel) | exact .inr (by decide +kernel)) (by rw [isSubtype_type]; kernel_rfl)
theorem sub_ba : isSubtype (.type "bytearray") (.type "bytearray") = pure true := by rw [isSubtype_type]; kernel_rfl
theorem called_ba : TypeCalled "bytearray" "bytearray.__new__" "bytearray.__init__" :=
  ⟨by decide +kernel, by decide +kernel, ⟨_, _, mro_ba⟩, madeBy_type mro_ba lookup_ba_new (by decide +kernel), by decide +kernel, sub_ba, slot_ba_init⟩
theorem typeCall_ba (a : Value) : checkTypeCall "bytearray" ⟨[a], []⟩ = pure () := by kernel_rfl
theorem newCall_ba (a : Value) : checkBuiltinCall "bytearray.__new__" ⟨[.type "bytearray", a], []⟩ = pure () := by kernel_rfl
theorem plain_ba_new : plainId "bytearray.__new__" = true := by decide +kernel
theorem entry_ba_new : entryFor table "bytearray.__new__" = some Builtin.«list.__new__» :=
  entryFor_alias (id' := "list.__new__") (by kernel_rfl) (by first | rfl | decide +kernel | (unfold String.splitOn; simp +decide [String.splitOnAux])) (by decide +kernel) (by kernel_rfl)
theorem entry_ba_init : entryFor table "bytearray.__init__" = some Builtin.«bytearray.__init__» := by first | exact entryFor_of_fast (by kernel_rfl) | exact entryFor_of_tree (by kernel_rfl)
theorem entry_ba_setitem : entryFor table "bytearray.__setitem__" = some Builtin.«bytearray.__setitem__» := by first | exact entryFor_of_fast (by kernel_rfl) | exact entryFor_of_tree (by kernel_rfl)
theorem owner_ba_new : ("bytearray.__new__".splitOn ".__new__").headD "" = "bytearray" := by simp +decide [String.splitOn, String.splitOnAux]
theorem args_ba_init (a b : Value) : argsOk "bytearray.__init__" ⟨[a, b], []⟩ := by unfold argsOk; kernel_rfl
theorem args_ba_setitem (a b c : Value) : argsOk "bytearray.__setitem__" ⟨[a, b, c], []⟩ := by unfold argsOk; kernel_rfl
theorem look_ba_release : typeLookup (.type "bytearray") "__release_buffer__" = pure (some (.builtin "bytearray.__release_buffer__")) := by rw [typeLookup_type, builtinLookup_eq_fast]; kernel_rfl
theorem look_ba_buffer : typeLookup (.type "bytearray") "__buffer__" = pure (some (.builtin "bytearray.__buffer__")) := by rw [typeLookup_type, builtinLookup_eq_fast]; kernel_rfl
theorem look_int_index : typeLookup (.type "int") "__index__" = pure (some (.builtin "int.__index__")) := by rw [typeLookup_type, builtinLookup_eq_fast]; kernel_rfl
theorem ba_bind (v : Value) : Builtin.Bytes.bindOptional "bytearray.__init__" "bytearray" ["source", "encoding", "errors"] [v] [] = pure [some v, none, none] := by kernel_rfl

theorem typeCall_tree (v : Value) : Builtin.«type.__call__» ⟨[.type "bytearray", v], []⟩ = (do
      let obj ← holding [Value.builtin "bytearray.__new__"] (call (Value.builtin "bytearray.__new__") [Value.type "bytearray", v])
      let d ← isInstance obj (Value.type "bytearray")
      if (!d) = true then do
          rule "type.call.new-gave-other-type"
          ret obj
        else do
          let d ← holding [obj] (callSpecial? obj (Str.ofString "__init__") [v])
          match d with
            | none => ret obj
            | some r =>
              if (r != Value.none) = true then do
                rule "type.call.init-returned-value"
                let d ← PySem.typeNameOf r
                raiseErrorMade "TypeError" (toString "__init__() should return None, not '" ++ toString d ++ toString "'")
                ret obj
              else ret obj) := by
  unfold Builtin.«type.__call__»
  have h1 := called_ba.notType
  have h2 := called_ba.canCreate
  have h3 := called_ba.made
  simp only [h1, h2, h3, mro_ba, typeCall_ba, pure_bind, Bool.false_eq_true, if_false, List.isEmpty_cons]
  rfl

def baObj (b : Array UInt8) : Obj := { cls := .type "bytearray", data := .bytearray b }

section
variable {prog : Program} {w : World} {A : Around} {E : Value → Shared → Prop} {s : Shared}
theorem code_ba_new (a : Value) {Q₁ : Value → Shared → Prop}
    (h : Q₁ (.ref s.heap.objs.size) { s with heap := s.heap.push (baObj #[]) }) :
    codeAny (model prog w) A (.call (.builtin "bytearray.__new__") ⟨[.type "bytearray", a], []⟩) (wants Q₁ E) s := by
  refine codeAny_of_tree ?_
  show wpAny _ A.in1 (do checkBuiltinCall "bytearray.__new__" ⟨[.type "bytearray", a], []⟩; again (.builtin "bytearray.__new__" ⟨[.type "bytearray", a], []⟩)) _ _ s
  refine wpAny_bind (wpAny_of_eq (newCall_ba a) (wpAny_pure ⟨plainId_quiet plain_ba_new _, codeAny_builtin_stack entry_ba_new rfl fun p st => ?_⟩))
  rw [Around.under_plainId plain_ba_new _]
  have hsub := sub_ba
  have hown := owner_ba_new
  obtain ⟨hp, g, d, tk, os⟩ := s
  simp only [hown]
  wp_walk
  exact h

theorem exported_any {S : Addr} : ∀ {l : List (Code × Pos)}, guardsOf l = [] → (∀ x ∈ l, okCode x.1 = true) → (l.any fun
    | (.builtin "bytearray.__contains__" ⟨v :: _, _⟩, _) | (.builtin "bytearray.__mod__" ⟨v :: _, _⟩, _)
    | (.builtin "bytearray.__rmod__" ⟨_ :: v :: _, _⟩, _) | (.builtin "_struct.pack_into.held" ⟨v :: _, _⟩, _) => Builtin.Bytes.sameRef v (.ref S)
    | (.builtin "bytearray.find.held" ⟨_ :: _ :: held, _⟩, _) => held.any (Builtin.Bytes.sameRef (.ref S))
    | (.builtin id ⟨v :: _, _⟩, _) => Builtin.Bytes.sameRef v (.ref S) && Builtin.Bytes.decodersThatHold.contains id
    | _ => false) = false := by
  intro l hg hc
  rw [List.any_eq_false]
  rintro ⟨c, p⟩ hx
  have hcl := hc _ hx
  have hng : c.isGuard = false := by
    cases q : c.isGuard with
    | false => rfl
    | true =>
      have : c ∈ guardsOf l := List.mem_filter.mpr ⟨List.mem_map.mpr ⟨_, hx, rfl⟩, q⟩
      rw [hg] at this; cases this
  split <;> simp_all [Code.isGuard, guardIds, okCode]

theorem wpC_exported {M : Model} {S : Addr} {Q : Bool → Shared → Prop} (hg : A.guards = some []) (h : Q false s) : wpC M A (Builtin.Bytes.exported (.ref S)) Q E s := fun Γ p hΓ hc => by
  unfold Builtin.Bytes.exported
  rw [Sem.wp_bind']
  unfold stack
  rw [Sem.wp_stack]
  have e := exported_any (S := S) (l := (Γ.code, p) :: Γ.below) (by rw [guardsOf_cons]; exact hΓ.2.2.2.1 _ hg) (fun x hx => by
    rcases List.mem_cons.mp hx with rfl | hx
    · exact hc.1
    · exact hc.2 x hx)
  have h' := h
  rw [← e] at h'
  exact h'
end
end
/-! Byt2 -/
section
set_option maxRecDepth 100000
set_option maxHeartbeats 4000000
section
variable {α : Type} {M : Model} {A : Around} {E : Value → Shared → Prop} {s : Shared}
theorem wpC_of_eq {t : Sem α} {a : α} {Q : α → Shared → Prop} (e : t = pure a) (h : Q a s) : wpC M A t Q E s := by rw [e]; exact wpC_pure h
theorem wpC_if_false {c : Bool} {a b : Sem α} {Q : α → Shared → Prop} (hc : c = false) (h : wpC M A b Q E s) : wpC M A (if c = true then a else b) Q E s := by
  rw [if_neg (by rw [hc]; exact Bool.false_ne_true)]; exact h
theorem wpC_if_true {c : Bool} {a b : Sem α} {Q : α → Shared → Prop} (hc : c = true) (h : wpC M A a Q E s) : wpC M A (if c = true then a else b) Q E s := by
  rw [if_pos hc]; exact h
theorem any_if_false {c : Bool} {a b : Sem α} {Q : α → Shared → Prop} (hc : c = false) (h : wpAny M A b Q E s) : wpAny M A (if c = true then a else b) Q E s := by
  rw [if_neg (by rw [hc]; exact Bool.false_ne_true)]; exact h
theorem any_if_true {c : Bool} {a b : Sem α} {Q : α → Shared → Prop} (hc : c = true) (h : wpAny M A a Q E s) : wpAny M A (if c = true then a else b) Q E s := by
  rw [if_pos hc]; exact h
theorem any_if_neg {c : Prop} [Decidable c] {a b : Sem α} {Q : α → Shared → Prop} (hc : ¬ c) (h : wpAny M A b Q E s) : wpAny M A (if c then a else b) Q E s := by
  rw [if_neg hc]; exact h
theorem any_if_pos {c : Prop} [Decidable c] {a b : Sem α} {Q : α → Shared → Prop} (hc : c) (h : wpAny M A a Q E s) : wpAny M A (if c then a else b) Q E s := by
  rw [if_pos hc]; exact h

theorem okb {id : String} {args : Args} (h : (!Builtin.Bytes.decodersThatHold.contains id) = true) : okCode (.builtin id args) = true := h
theorem ba_typeIs {S : Addr} {b : Array UInt8} (hS : s.heap.get? S = some (baObj b)) : s.TypeIs (.ref S) "bytearray" := ⟨_, hS, rfl⟩

theorem ownSlot_ba {S : Addr} {b : Array UInt8} {Q : Bool → Shared → Prop} (hS : s.heap.get? S = some (baObj b)) {nm : String} {id : String} (hl : typeLookup (.type "bytearray") (Str.ofString nm) = pure (some (.builtin id)))
    (h1 : (!id.endsWith ("." ++ nm)) = false) (h2 : id.dropRight (nm.length + 1) = "bytearray") (h : Q true s) :
    wpAny M A (Builtin.Bytes.slotIsOwn (.ref S) nm) Q E s := by
  unfold Builtin.Bytes.slotIsOwn
  refine wpAny_bind (wpAny_specialOf (ba_typeIs hS) hl ?_)
  dsimp only
  refine any_if_false h1 ?_
  rw [h2]
  exact wpAny_isInstance (ba_typeIs hS) sub_ba h
theorem ownRelease_ba {S : Addr} {b : Array UInt8} {Q : Bool → Shared → Prop} (hS : s.heap.get? S = some (baObj b)) (h : Q false s) :
    wpAny M A (Builtin.Bytes.ownRelease (.ref S)) Q E s := by
  unfold Builtin.Bytes.ownRelease
  exact wpAny_bind (ownSlot_ba hS look_ba_release (by decide +kernel) (by decide +kernel) (wpAny_pure h))

theorem write_ba {S : Addr} {b : Array UInt8} {f : Array UInt8 → Array UInt8} {Q : Unit → Shared → Prop} (hS : s.heap.get? S = some (baObj b)) (hz : (f b).size ≤ sizeLine)
    (h : ∀ h', h'.get? S = some (baObj (f b)) → Heap.SameBut S s.heap h' → Q () { s with heap := h' }) : wpAny M A (Builtin.Bytes.write (.ref S) f) Q E s := by
  show wpAny M A (updateBytearray S f) Q E s
  unfold updateBytearray
  refine wpAny_bind (wpAny_load hS ?_)
  show wpAny M A (update S (Obj.mapBytearray f) >>= fun _ => lookBehind S) Q E s
  have hg : (s.heap.update S (Obj.mapBytearray f)).get? S = some (baObj (f b)) := Heap.get?_update_self (Obj.mapBytearray f) hS rfl
  refine wpAny_bind (wpAny_update hS (wpAny_lookBehind hg ?_ (h _ hg (Heap.SameBut.update ..))))
  show (if (f b).size > sizeLine then some "bytearray:memory" else none) = none
  rw [if_neg (Nat.not_lt.mpr hz)]
end
section
variable {prog : Program} {w : World} {A : Around} {E : Value → Shared → Prop} {s : Shared}
theorem size_repl (n : Nat) : (Array.replicate n (0 : UInt8)).size = n := Array.size_replicate

theorem init_ba {S : Addr} {n : Int} {t : Tok} {Q : Fin → Shared → Prop} (hg : A.guards = some []) (hS : s.heap.get? S = some (baObj #[])) (h0 : 0 ≤ n) (hn : n ≤ 16777216)
    (h : ∀ h' tk, h'.get? S = some (baObj (Array.replicate n.toNat 0)) → Heap.SameBut S s.heap h' → Q (.done (.ret .none)) { s with heap := h', toks := tk }) :
    wpC (model prog w) A (Builtin.«bytearray.__init__» ⟨[.ref S, .int n t], []⟩) Q E s := by
  unfold Builtin.«bytearray.__init__»
  dsimp only
  refine wpC_seq (ownRelease_ba hS ?_)
  refine wpC_if_false rfl ?_
  refine wpC_bind (wpC_of_eq (ba_bind _) ?_)
  dsimp only
  refine wpC_bind (wpC_of_eq (a := ()) rfl ?_)
  refine wpC_bind (wpC_of_eq (a := ()) rfl ?_)
  refine wpC_bind ?_
  show wpC _ _ (Builtin.Bytes.exported (.ref S) >>= _) _ _ _
  refine wpC_bind (wpC_exported hg ?_)
  show wpC _ _ (Builtin.Bytes.exportsOf (.ref S) >>= _) _ _ _
  refine wpC_seq ?_
  show wpAny _ _ (load S >>= _) _ _ _
  refine wpAny_bind (wpAny_load hS ?_)
  show wpAny _ _ (pure 0) _ _ _
  refine wpAny_pure ?_
  refine wpC_pure ?_
  refine wpC_if_false rfl ?_
  refine wpC_seq (write_ba hS (Nat.zero_le _) fun h₁ hS₁ hs₁ => ?_)
  refine wpC_of_any ?_
  refine wpAny_bind (wpAny_of_eq (a := none) rfl ?_)
  refine any_if_false rfl ?_
  refine wpAny_bind (wpAny_of_eq (a := ()) rfl ?_)
  refine wpAny_bind (wpAny_specialOf (typeIs_int _ _ _) look_int_index ?_)
  refine any_if_true rfl ?_
  refine wpAny_bind (wpAny_attempt (wpAny_of_eq (a := n) rfl ?_))
  dsimp only
  refine any_if_false ?_ ?_
  · simp [Builtin.Bytes.fitsIndex]; omega
  refine any_if_neg (by omega) ?_
  refine any_if_false (by simp; omega) ?_
  refine any_if_false ?_ ?_
  · unfold Builtin.Bytes.tooLong
    rw [sizeLine_eq]
    exact decide_eq_false (by omega)
  refine wpAny_bind (wpAny_rule ?_)
  by_cases hp : n > 0
  · refine any_if_pos hp ?_
    refine wpAny_bind (write_ba hS₁ (by rw [size_repl, sizeLine_eq]; omega) fun h₂ hS₂ hs₂ => ?_)
    exact wpAny_pure (h h₂ s.toks hS₂ (hs₁.trans hs₂))
  · refine any_if_neg hp ?_
    have e : n = 0 := by omega
    subst e
    exact wpAny_pure (h h₁ s.toks hS₁ hs₁)

/-- bytearray(n) in the clean logic -/
theorem call_bytearray {n : Int} {t : Tok} {Q : Value → Shared → Prop} (hg : A.guards = some []) (h0 : 0 ≤ n) (hn : n ≤ 16777216)
    (h : ∀ h' tk, h'.get? s.heap.objs.size = some (baObj (Array.replicate n.toNat 0)) → (∀ b o, s.heap.get? b = some o → h'.get? b = some o) → h'.objs.size = s.heap.objs.size + 1 →
      Q (.ref s.heap.objs.size) { s with heap := h', toks := tk }) :
    wpC (model prog w) A (call (.type "bytearray") [.int n t]) Q E s := by
  refine wpC_call (codeC_of_tree ?_)
  show wpC _ _ (callAny (.type "bytearray") _) _ _ _
  refine wpC_pure ⟨Code.quiet_builtin _ (by decide +kernel), codeC_builtin F.entry_type_call (okb (by decide +kernel)) ?_⟩
  rw [Around.under_plain (weight_type_call_type "bytearray" _ []) (units_type_call_type "bytearray" _ [])]
  show wpC _ _ (Builtin.«type.__call__» ⟨[.type "bytearray", .int n t], []⟩) _ _ s
  rw [typeCall_tree]
  refine wpC_seq (wpAny_holding (wpAny_call (codeAny_mono (code_ba_new (Q₁ := fun obj s₁ => obj = .ref s.heap.objs.size ∧ s₁ = { s with heap := s.heap.push (baObj #[]) }) (E := fun _ _ => False) _ ⟨rfl, rfl⟩) fun r s₁ hr => ?_)))
  cases r with
  | error e => exact hr.elim
  | ok fl =>
    cases fl with
    | ret obj =>
      obtain ⟨rfl, rfl⟩ := hr
      have hS : (s.heap.push (baObj #[])).get? s.heap.objs.size = some (baObj #[]) := Heap.get?_push_size _ rfl
      refine wpC_seq (wpAny_isInstance (ba_typeIs (s := { s with heap := s.heap.push (baObj #[]) }) hS) sub_ba ?_)
      refine wpC_if_false rfl ?_
      refine wpC_bind (wpC_holding ?_)
      unfold callSpecial?
      refine wpC_seq (wpAny_specialOf (ba_typeIs (s := { s with heap := s.heap.push (baObj #[]) }) hS) slot_ba_init.lookup ?_)
      dsimp only
      refine wpC_holding ?_
      refine wpC_bind (wpC_of_eq (slot_ba_init.bind _) ?_)
      refine wpC_bind ?_
      refine wpC_call (codeC_call_builtin slot_ba_init.plain entry_ba_init (okb (by decide +kernel)) ?_)
      refine slot_ba_init.check _ _ _ _ _ _ _ _ (ba_typeIs (s := { s with heap := s.heap.push (baObj #[]) }) hS) (args_ba_init _ _) ?_
      refine init_ba hg hS h0 hn fun h' tk hS' hs' => ?_
      dsimp only
      refine wpC_pure ?_
      dsimp only
      refine wpC_if_false rfl ?_
      refine wpC_pure ?_
      refine h h' tk hS' (fun b o e => hs'.extBut b o (Nat.ne_of_lt (Heap.lt_size e)) (Heap.get?_push_of_some _ e)) ?_
      rw [hs'.1]; exact Heap.size_push _ _
    | _ => exact hr.elim
end
end
/-! Byt3 -/
section
set_option maxRecDepth 100000
set_option maxHeartbeats 4000000
section
variable {prog : Program} {w : World} {A : Around} {E : Value → Shared → Prop} {s : Shared}
theorem fits_idx {k : Int} (h0 : 0 ≤ k) (h1 : k ≤ 16777216) : Builtin.Bytes.fitsIndex k = true := by
  simp [Builtin.Bytes.fitsIndex]; omega
theorem seqIndex_in {k : Int} {n : Nat} (h0 : 0 ≤ k) (h1 : k < n) : seqIndex? k n = some k.toNat := by
  unfold seqIndex?
  simp only []
  split <;> simp_all <;> omega

theorem setItem_ba {S : Addr} {b : Array UInt8} {k v : Int} {t u : Tok} {Q : Unit → Shared → Prop} (hS : s.heap.get? S = some (baObj b)) (h0 : 0 ≤ k) (h1 : k < b.size) (v0 : 0 ≤ v) (v1 : v < 256) (hz : b.size ≤ 16777216)
    (hQ : ∀ h', h'.get? S = some (baObj (b.setIfInBounds k.toNat v.toNat.toUInt8)) → Heap.SameBut S s.heap h' → Q () { s with heap := h' }) :
    wpAny (model prog w) A (setItem (.ref S) (.int k t) (.int v u)) Q E s := by
  have hT := ba_typeIs (s := s) hS
  unfold setItem
  refine wpAny_holding (wpAny_bind (wpAny_sequenceKey hT (by decide) ?_))
  refine wpAny_bind (wpAny_callSpecial?_slot (name := Str.ofString "__setitem__") hT slot_ba_setitem
    (wpAny_call_entry slot_ba_setitem hT entry_ba_setitem ?_ (args_ba_setitem _ _ _)))
  unfold Builtin.«bytearray.__setitem__»
  refine any_if_false rfl ?_
  try dsimp only
  refine wpAny_bind ?_
  unfold Builtin.Bytes.subscript?
  refine wpAny_bind (wpAny_specialOf (typeIs_int _ _ _) look_int_index ?_)
  refine any_if_false rfl ?_
  refine wpAny_bind (wpAny_of_eq (a := k) rfl ?_)
  refine any_if_false (by rw [fits_idx h0 (by omega)]; rfl) ?_
  refine wpAny_pure ?_
  try dsimp only
  refine wpAny_bind ?_
  unfold Builtin.Bytes.byteValue
  refine wpAny_bind (wpAny_of_eq (a := v) rfl ?_)
  refine any_if_false (by simp; omega) ?_
  refine wpAny_pure ?_
  refine wpAny_bind ?_
  unfold Builtin.Bytes.payload Builtin.Bytes.payload?
  refine wpAny_bind (wpAny_bind (wpAny_load hS ?_))
  show wpAny _ _ (pure (some b)) _ _ _
  refine wpAny_pure ?_
  try dsimp only
  refine wpAny_pure ?_
  rw [seqIndex_in h0 h1]
  try dsimp only
  refine wpAny_bind (write_ba hS (by rw [Array.size_setIfInBounds, sizeLine_eq]; omega) fun h' hS' hs' => ?_)
  exact wpAny_pure ⟨_, rfl, wpAny_pure (hQ h' hS' hs')⟩

theorem no_ba_bytes : typeLookup (.type "bytearray") "__bytes__" = pure none := by rw [typeLookup_type, builtinLookup_eq_fast]; kernel_rfl
theorem no_ba_index : typeLookup (.type "bytearray") "__index__" = pure none := by rw [typeLookup_type, builtinLookup_eq_fast]; kernel_rfl

theorem buffer_ba {S : Addr} {b : Array UInt8} {id : String} {Q : Option (Array UInt8) → Shared → Prop} (hS : s.heap.get? S = some (baObj b)) (h : Q (some b) s) :
    wpAny (model prog w) A (Builtin.Bytes.buffer? id (.ref S) true) Q E s := by
  have hT := ba_typeIs (s := s) hS
  unfold Builtin.Bytes.buffer?
  refine wpAny_bind (wpAny_specialOf hT look_ba_buffer ?_)
  try dsimp only
  refine wpAny_bind (ownSlot_ba hS look_ba_buffer (by decide +kernel) (by decide +kernel) ?_)
  refine any_if_false rfl ?_
  refine wpAny_bind (wpAny_specialOf hT look_ba_buffer ?_)
  try dsimp only
  refine wpAny_bind (ownRelease_ba hS ?_)
  refine any_if_false rfl ?_
  refine wpAny_bind ?_
  unfold Builtin.Bytes.payload Builtin.Bytes.payload?
  refine wpAny_bind (wpAny_bind (wpAny_load hS ?_))
  show wpAny _ _ (pure (some b)) _ _ _
  refine wpAny_pure ?_
  try dsimp only
  exact wpAny_pure (wpAny_pure h)

theorem new_bytes_ba {S : Addr} {b : Array UInt8} {Q : Value → Shared → Prop} (hS : s.heap.get? S = some (baObj b)) (hz : b.size ≤ 16777216)
    (hQ : ∀ t k, Q (.bytes b t) { s with toks := k }) :
    codeAny (model prog w) A (.call (.builtin "bytes.__new__") ⟨[.type "bytes", .ref S], []⟩) (wants Q E) s := by
  refine codeAny_of_tree ?_
  show wpAny _ A.in1 (do checkBuiltinCall "bytes.__new__" ⟨[.type "bytes", .ref S], []⟩; again (.builtin "bytes.__new__" ⟨[.type "bytes", .ref S], []⟩)) _ _ s
  refine wpAny_bind (wpAny_of_eq (F.bm_newCall _) (wpAny_pure ⟨plainId_quiet F.bm_plain _, codeAny_builtin F.bm_entry ?_⟩))
  rw [Around.under_plainId F.bm_plain _]
  have hT := ba_typeIs (s := s) hS
  unfold Builtin.«bytes.__new__»
  refine wpAny_bind (wpAny_of_eq (a := true) rfl ?_)
  refine any_if_false rfl ?_
  refine wpAny_bind (wpAny_of_eq F.bm_sub ?_)
  refine any_if_false rfl ?_
  refine wpAny_bind (wpAny_of_eq (F.bm_bind _) ?_)
  refine wpAny_bind (wpAny_of_eq (a := ()) rfl ?_)
  refine wpAny_bind (wpAny_of_eq (a := ()) rfl ?_)
  refine any_if_false rfl ?_
  refine wpAny_bind (wpAny_specialOf hT no_ba_bytes ?_)
  refine wpAny_bind (wpAny_bind ?_)
  show wpAny _ _ (load S >>= _) _ _ _
  refine wpAny_bind (wpAny_load hS ?_)
  refine wpAny_pure (wpAny_pure ?_)
  refine any_if_false rfl ?_
  refine wpAny_bind (wpAny_specialOf hT no_ba_index ?_)
  refine any_if_true rfl ?_
  first
    | show wpAny _ _ (Builtin.Bytes.buffer? "bytes.__new__" (.ref S) true >>= _) _ _ _
    | (refine wpAny_bind ?_; show wpAny _ _ (Builtin.Bytes.buffer? "bytes.__new__" (.ref S) true >>= _) _ _ _)
  refine wpAny_bind (buffer_ba hS ?_)
  try dsimp only
  refine wpAny_bind (wpAny_rule ?_)
  refine wpAny_bind (wpAny_mkBytes ?_ (by rw [sizeLine_eq]; exact hz))
  exact wpAny_pure (hQ _ _)

/-- bytes(bytearray) -/
theorem call_bytes_ba {S : Addr} {b : Array UInt8} {Q : Value → Shared → Prop} (hS : s.heap.get? S = some (baObj b)) (hz : b.size ≤ 16777216)
    (hQ : ∀ t k, Q (.bytes b t) { s with toks := k }) : wpAny (model prog w) A (call (.type "bytes") [.ref S]) Q E s := by
  refine callType_codes (Q₁ := fun obj s₁ => s₁.TypeIs obj "bytes" ∧ Q obj s₁) F.bm_called (F.bm_typeCall _) F.entry_object_init
    (new_bytes_ba hS hz fun t k => ⟨PySem.W.typeIs_bytes _ _ _, hQ t k⟩) fun obj s₁ h₁ => ?_
  exact ⟨h₁.1, F.args_object_init_2 obj _, object_init_meets F.bm_called.init.lookup F.bm_called.made (by decide) prog w A.in1 _ s₁ ⟨h₁.1, rfl, h₁.2⟩⟩
end
end
/-! Byt4 -/
section
set_option maxRecDepth 100000
set_option maxHeartbeats 4000000
theorem slot_bj : Slot "bytes" "join" "bytes.join" :=
  .of (owner := "bytes") (n := "join") (by rw [typeLookup_type, builtinLookup_eq_fast]; kernel_rfl) (by decide +kernel) (by decide +kernel) (by decide +kernel)
    (by first | exact .inl (by decide +kernel) | exact .inr (by decide +kernel)) (by rw [isSubtype_type]; kernel_rfl)
theorem type_bj : typeOf (.builtin "bytes.join") = pure (.type "method_descriptor") := by show builtinType _ = _; rw [builtinType_eq_fast]; kernel_rfl
theorem entry_bj : entryFor table "bytes.join" = some Builtin.«bytes.join» := by first | exact entryFor_of_fast (by kernel_rfl) | exact entryFor_of_tree (by kernel_rfl)
theorem args_bj (a b : Value) : argsOk "bytes.join" ⟨[a, b], []⟩ := by unfold argsOk; kernel_rfl
theorem ga_bytes : typeLookup (.type "bytes") "__getattribute__" = pure (some (.builtin "bytes.__getattribute__")) := by rw [typeLookup_type, builtinLookup_eq_fast]; kernel_rfl
theorem no_getattr_bytes : typeLookup (.type "bytes") "__getattr__" = pure none := by rw [typeLookup_type, builtinLookup_eq_fast]; kernel_rfl
theorem canon_ga_bytes : (Manifest.canonical "bytes.__getattribute__" != "object.__getattribute__") = false := by decide +kernel
section
variable {prog : Program} {w : World} {A : Around} {E : Value → Shared → Prop} {s : Shared}
theorem method_bj {b : Array UInt8} {t : Tok} {pl : Sem Bool} {Q : Value × List Value → Shared → Prop} (h : Q (.builtin "bytes.join", [.bytes b t]) s) :
    wpAny (model prog w) A (getMethod (.bytes b t) (PySem.Str.ofString "join") pl) Q E s :=
  getMethod_value (T := "bytes") (name := PySem.Str.ofString "join") (ga := "bytes.__getattribute__") (id := "bytes.join") (PySem.W.typeIs_bytes s b t) (by intro _ x; cases x) ga_bytes canon_ga_bytes no_getattr_bytes slot_bj.lookup type_bj h
theorem takeQuiet_eq {id : String} {b : Array UInt8} {t : Tok} : Builtin.Bytes.takeBufferQuiet? id (.bytes b t) 0 = pure (some (b, none)) := by
  have e : Builtin.Bytes.takeBuffer? id (.bytes b t) 0 = pure (some (b, none)) := by
    unfold Builtin.Bytes.takeBuffer?
    rw [KBy.special_eq KBy.look_buffer, KBy.own_buffer]
    show (Builtin.Bytes.buffer? id (.bytes b t) false >>= fun x => pure (x.map fun y => (y, none))) = _
    rw [KBy.buffer_eq]
    rfl
  unfold Builtin.Bytes.takeBufferQuiet?
  rw [e]
  rfl

theorem joinLetGo_vals {M : Model} {keep : List Value} {Q : Unit → Shared → Prop} (h : Q () s) : ∀ ps : List (Array UInt8 × Tok), wpAny M A (Builtin.Bytes.joinLetGo (ps.map fun p => (Value.bytes p.1 p.2, none)) keep) Q E s
  | [] => wpAny_pure h
  | p :: r => by
    show wpAny M A (letGo [.bytes p.1 p.2] _ >>= fun _ => Builtin.Bytes.joinLetGo (r.map fun p => (Value.bytes p.1 p.2, none)) keep) Q E s
    exact wpAny_bind (wpAny_letGo (joinLetGo_vals h r))

def bvals (ps : List (Array UInt8 × Tok)) : List Value := ps.map fun p => .bytes p.1 p.2
theorem bvals_get {ps : List (Array UInt8 × Tok)} {i : Nat} {p : Array UInt8 × Tok} (h : ps[i]? = some p) : (bvals ps).toArray.getD i .none = .bytes p.1 p.2 := by
  have : (bvals ps)[i]? = some (.bytes p.1 p.2) := by unfold bvals; rw [List.getElem?_map, h]; rfl
  rw [Array.getD_eq_getD_getElem?, List.getElem?_toArray, this]; rfl

theorem one_or_more {M : Model} {ps : List (Array UInt8 × Tok)} {f : Value → Sem Fin} {g : Array Value → Sem Fin} {Q : Fin → Shared → Prop}
    (h1 : ∀ p, ps = [p] → wpAny M A (f (.bytes p.1 p.2)) Q E s) (h2 : wpAny M A (g (bvals ps).toArray) Q E s) :
    wpAny M A (Builtin.Bytes.joinM.match_1 (fun _ => Sem Fin) (bvals ps).toArray f g) Q E s := by
  match ps, h1, h2 with
  | [], _, h2 => exact h2
  | [p], h1, _ => exact h1 p rfl
  | p :: q :: r, _, h2 => exact h2
theorem join_tree {t : Tok} {l : Addr} {ps : List (Array UInt8 × Tok)} {Q : Fin → Shared → Prop} (hl : s.heap.IsList l (bvals ps).toArray)
    (hz : ((ps.map (·.1)).toArray.foldl (fun n b => n + b.size) 0) ≤ 16777216) (hj : (Builtin.Bytes.joined #[] (ps.map (·.1))).size ≤ 16777216)
    (hQ : ∀ t' k, Q (.done (.ret (.bytes (Builtin.Bytes.joined #[] (ps.map (·.1))) t'))) { s with toks := k }) :
    wpAny (model prog w) A (Builtin.«bytes.join» ⟨[.bytes #[] t, .ref l], []⟩) Q E s := by
  obtain ⟨o, ho, hc, n, hd⟩ := id hl
  show wpAny _ _ (_ >>= _) _ _ _
  refine wpAny_bind (wpAny_of_eq (a := (.bytes #[] t, .ref l)) (by kernel_rfl) ?_)
  show wpAny _ _ (Builtin.Bytes.joinItems (.ref l) >>= _) _ _ _
  refine wpAny_bind ?_
  unfold Builtin.Bytes.joinItems
  refine wpAny_bind (wpAny_typeOf hl.typeIs ?_)
  refine any_if_true rfl ?_
  refine wpAny_pure ?_
  show wpAny _ _ (seqItems? (.ref l) >>= _) _ _ _
  refine wpAny_bind (wpAny_seqItems ho hd ?_)
  show wpAny _ _ (if true = true then _ else _) _ _ _
  refine any_if_true rfl ?_
  refine one_or_more (fun p e => ?_) ?_
  · subst e
    refine wpAny_bind (wpAny_typeOf (PySem.W.typeIs_bytes _ _ _) ?_)
    refine any_if_true rfl ?_
    refine wpAny_bind (wpAny_rule (wpAny_pure ?_))
    have e : Builtin.Bytes.joined #[] ([p].map (·.1)) = p.1 := by simp [Builtin.Bytes.joined]
    have := hQ p.2 s.toks
    rw [e] at this
    exact this
  refine wpAny_bind ?_
  rw [Std.Legacy.Range.forIn_eq_forIn_range']
  refine wpAny_forIn_list _ (fun rest st s' => s' = s ∧ ∃ i, rest = List.range' i (ps.length - i) ∧ i ≤ ps.length ∧ st.1 = ((ps.take i).map (·.1)).toArray ∧ st.2 = (ps.take i).map fun p => (Value.bytes p.1 p.2, none)) _ ?_ ?_ _ _ ⟨rfl, 0, ?_, Nat.zero_le _, rfl, rfl⟩
  · rintro x rest ⟨parts, taken⟩ s' ⟨rfl, i, hr, hi, hp, ht⟩
    have hlt : i < ps.length := by
      rcases Nat.lt_or_ge i ps.length with h | h
      · exact h
      · rw [Nat.sub_eq_zero_of_le h] at hr; cases hr
    have hsub : ps.length - i = (ps.length - (i + 1)) + 1 := by omega
    rw [hsub, List.range'_succ] at hr
    injection hr with hx hr
    subst hx
    have hpx : ps[x]? = some ps[x] := List.getElem?_eq_getElem hlt
    show wpAny _ _ (seqItems? (.ref l) >>= _) _ _ _
    refine wpAny_bind (wpAny_seqItems ho hd ?_)
    have hgx := bvals_get hpx
    have e1 : ps.take (x + 1) = ps.take x ++ [ps[x]] := by rw [List.take_add_one, hpx]; rfl
    have hnh : (Builtin.Bytes.Kind.bytes == Builtin.Bytes.Kind.bytearray || taken.any fun x => x.fst.onHeap) = false := by
      show (false || taken.any fun x => x.fst.onHeap) = false
      rw [Bool.false_or]
      replace ht : taken = (ps.take x).map fun p => (Value.bytes p.1 p.2, none) := ht
      rw [ht, List.any_map, List.any_eq_false]
      intro p _; simp [Value.onHeap]
    show wpAny _ _ (if (Builtin.Bytes.Kind.bytes == Builtin.Bytes.Kind.bytearray || taken.any fun x => x.fst.onHeap) = true then _ else _) _ _ _
    refine any_if_false hnh ?_
    refine wpAny_bind (wpAny_holding ?_)
    rw [hgx]
    refine wpAny_of_eq takeQuiet_eq ?_
    show wpAny _ _ (seqItems? (.ref l) >>= _) _ _ _
    refine wpAny_bind (wpAny_seqItems ho hd ?_)
    refine any_if_false (by simp) ?_
    refine wpAny_pure ⟨rfl, x + 1, hr, hlt, ?_, ?_⟩
    · show parts.push ps[x].1 = ((ps.take (x + 1)).map (·.1)).toArray
      rw [e1, List.map_append, show parts = _ from hp, List.push_toArray]; rfl
    · show taken ++ [(Value.bytes ps[x].1 ps[x].2, none)] = (ps.take (x + 1)).map fun p => (Value.bytes p.1 p.2, none)
      rw [e1, List.map_append, show taken = _ from ht]; rfl
  · rintro ⟨parts, taken⟩ s' ⟨rfl, i, hr, hi, hp, ht⟩
    have hin : i = ps.length := by
      rcases Nat.lt_or_ge i ps.length with h | h
      · have hsub : ps.length - i = (ps.length - (i + 1)) + 1 := by omega
        rw [hsub, List.range'_succ] at hr; cases hr
      · omega
    subst hin
    rw [List.take_length] at hp ht
    replace hp : parts = (ps.map (·.1)).toArray := hp
    replace ht : taken = ps.map fun p => (Value.bytes p.1 p.2, none) := ht
    subst hp ht
    refine wpAny_bind (wpAny_of_eq (a := (#[] : Array UInt8)) rfl ?_)
    refine any_if_false ?_ ?_
    · refine KBy.tooLong_not ?_
      have : (#[] : Array UInt8).size * ((ps.map (·.1)).toArray.size - 1) = 0 := by simp
      show Array.foldl (fun x1 x2 => x1 + x2.size) ((#[] : Array UInt8).size * ((ps.map (·.1)).toArray.size - 1)) (ps.map (·.1)).toArray ≤ _
      rw [this]; exact hz
    show wpAny _ _ (mkBytes _ >>= _) _ _ _
    refine wpAny_bind (wpAny_mkBytes ?_ (by rw [sizeLine_eq]; exact hj))
    refine wpAny_bind (wpAny_holding (wpAny_point ?_))
    refine wpAny_bind (joinLetGo_vals ?_ ps)
    exact wpAny_pure (hQ _ _)
  · simp [bvals, Std.Legacy.Range.size]

theorem call_join {t : Tok} {l : Addr} {ps : List (Array UInt8 × Tok)} {Q : Value → Shared → Prop} (hl : s.heap.IsList l (bvals ps).toArray)
    (hz : ((ps.map (·.1)).toArray.foldl (fun n b => n + b.size) 0) ≤ 16777216) (hj : (Builtin.Bytes.joined #[] (ps.map (·.1))).size ≤ 16777216)
    (hQ : ∀ t' k, Q (.bytes (Builtin.Bytes.joined #[] (ps.map (·.1))) t') { s with toks := k }) :
    wpAny (model prog w) A (call (.builtin "bytes.join") [.bytes #[] t, .ref l]) Q E s :=
  wpAny_call_entry slot_bj (PySem.W.typeIs_bytes s _ _) entry_bj (join_tree hl hz hj fun t' k => ⟨_, rfl, hQ t' k⟩) (args_bj _ _)
end
end
/-! Enum -/
section
set_option maxRecDepth 100000
set_option maxHeartbeats 4000000
section
variable {prog : Program} {w : World} {A : Around} {E : Value → Shared → Prop} {s : Shared}

theorem stop_here {I : Addr} {o : Obj} {vs : Array Value} {P : Fin → Shared → Prop} (hh : A.handled = none) (ho : s.heap.get? I = some o) (hd : o.data = .fields vs) (h0 : 0 < vs.size)
    (hE : ∀ h' e, Heap.ExtBut I s.heap h' → (∃ o, h'.get? e = some o ∧ o.cls = .type "StopIteration") → E (.ref e) { s with heap := h' }) :
    wpAny (model prog w) A (do setField (.ref I) 0 .none; Builtin.SmallTypes.stopIteration) P E s := by
  refine wpAny_bind (wpAny_setField ho hd h0 ?_)
  show wpAny _ _ (newExc (.type "StopIteration") [] >>= _) _ _ _
  refine wpAny_bind ?_
  simp only [newExc, newTuple]
  refine wpAny_bind (wpAny_newObj_type ?_ (by size_fits))
  refine wpAny_bind (m := firstArgMember _ _) (wpAny_of_eq (a := Value.none) (by first | rfl | (simp only [firstArgMember]; rfl)) ?_)
  refine wpAny_newObj_type ?_ (by size_fits)
  simp only [raiseNew]
  refine wpAny_bind (wpAny_handled ?_)
  rw [hh]
  refine wpAny_bind (wpAny_pure (wpAny_throw ?_))
  exact hE _ _ (((Heap.SameBut.update ..).extBut.push _).push _) ⟨_, Heap.get?_push_size _ rfl, rfl⟩

theorem nextOf_bytes_item {it : Addr} {b : Array UInt8} {t : Tok} {i : Nat} {c : UInt8} {Q : Value → Shared → Prop} (hit : KBw.IsBytesIter s.heap it b t i) (hx : b[i]? = some c)
    (hQ : ∀ h', KBw.IsBytesIter h' it b t (i + 1) → Heap.SameBut it s.heap h' → Q (.int (c.toNat : Int) s.toks) { s with heap := h', toks := s.toks + 1 }) :
    wpAny (model prog w) A (Builtin.SmallTypes.nextOf (.ref it)) Q E s := by
  obtain ⟨o, ho, hc, hd⟩ := id hit
  unfold Builtin.SmallTypes.nextOf
  refine wpAny_bind (wpAny_callSpecial?_slot (name := PySem.Str.ofString "__next__") (KBw.iter_typeIs hit) KBw.slot_next
    (wpAny_call_entry KBw.slot_next (KBw.iter_typeIs hit) KBw.entry_next ?_ (KBw.args_next _)))
  show wpAny _ _ (field (.ref it) 0 >>= _) _ _ s
  refine wpAny_bind (wpAny_field ho hd (x := .bytes b t) rfl ?_)
  refine any_if_false rfl ?_
  show wpAny _ _ (field (.ref it) 1 >>= _) _ _ s
  refine wpAny_bind (wpAny_field ho hd (x := .int i 0) rfl ?_)
  refine wpAny_bind (wpAny_of_eq (a := b) rfl ?_)
  simp only [Int.toNat_natCast, hx]
  refine wpAny_bind (wpAny_setField ho hd (by simp) (wpAny_bind (wpAny_mkInt (wpAny_pure ⟨_, rfl, wpAny_pure (hQ _ ?_ (Heap.SameBut.update ..))⟩))))
  exact ⟨_, Heap.get?_update_self _ ho (Obj.isFreed_of_fields (Obj.data_mapFields hd _)), (Obj.cls_mapFields ..).trans hc, by
    rw [Obj.data_mapFields hd]; simp [rawInt]⟩
theorem nextOf_bytes_end {it : Addr} {b : Array UInt8} {t : Tok} {i : Nat} {Q : Value → Shared → Prop} (hh : A.handled = none) (hit : KBw.IsBytesIter s.heap it b t i) (hx : b[i]? = none)
    (hE : ∀ h' e, Heap.ExtBut it s.heap h' → (∃ o, h'.get? e = some o ∧ o.cls = .type "StopIteration") → E (.ref e) { s with heap := h' }) :
    wpAny (model prog w) A (Builtin.SmallTypes.nextOf (.ref it)) Q E s := by
  obtain ⟨o, ho, hc, hd⟩ := id hit
  unfold Builtin.SmallTypes.nextOf
  refine wpAny_bind (wpAny_callSpecial?_slot (name := PySem.Str.ofString "__next__") (KBw.iter_typeIs hit) KBw.slot_next
    (wpAny_call_entry KBw.slot_next (KBw.iter_typeIs hit) KBw.entry_next ?_ (KBw.args_next _)))
  show wpAny _ _ (field (.ref it) 0 >>= _) _ _ s
  refine wpAny_bind (wpAny_field ho hd (x := .bytes b t) rfl ?_)
  refine any_if_false rfl ?_
  show wpAny _ _ (field (.ref it) 1 >>= _) _ _ s
  refine wpAny_bind (wpAny_field ho hd (x := .int i 0) rfl ?_)
  refine wpAny_bind (wpAny_of_eq (a := b) rfl ?_)
  simp only [Int.toNat_natCast, hx]
  refine wpAny_bind (wpAny_rule ?_)
  exact stop_here (A := A.in1) hh ho hd (by simp) hE

theorem nextOf_tuple_item {it l : Addr} {i : Nat} {items : Array Value} {x : Value} {Q : Value → Shared → Prop} (hit : s.heap.IsTupleIter it l i) (hl : s.heap.IsTuple l items) (hx : items[i]? = some x)
    (hQ : ∀ h', h'.IsTupleIter it l (i + 1) → Heap.SameBut it s.heap h' → Q x { s with heap := h' }) :
    wpAny (model prog w) A (Builtin.SmallTypes.nextOf (.ref it)) Q E s := by
  obtain ⟨o, ho, hc, hd⟩ := id hit
  obtain ⟨ol, hol, _, nl, hdl⟩ := hl
  unfold Builtin.SmallTypes.nextOf
  refine wpAny_bind (wpAny_callSpecial?_slot (name := PySem.Str.ofString "__next__") hit.typeIs F.slot_tuple_iterator_next
    (wpAny_call_entry F.slot_tuple_iterator_next hit.typeIs F.entry_tuple_iterator_next ?_ (F.args_tuple_iterator_next_1 _)))
  show wpAny _ _ (field (.ref it) 0 >>= _) _ _ s
  refine wpAny_bind (wpAny_field ho hd (x := .ref l) rfl ?_)
  refine any_if_false rfl ?_
  show wpAny _ _ (field (.ref it) 1 >>= _) _ _ s
  refine wpAny_bind (wpAny_field ho hd (x := .int i 0) rfl ?_)
  show wpAny _ _ (seqItems? (.ref l) >>= _) _ _ s
  refine wpAny_bind (wpAny_seqItems hol hdl ?_)
  simp only [Int.toNat_natCast, hx]
  refine wpAny_bind (wpAny_setField ho hd (by simp) (wpAny_pure ⟨x, rfl, wpAny_pure (hQ _ ?_ (Heap.SameBut.update ..))⟩))
  exact ⟨_, Heap.get?_update_self _ ho (Obj.isFreed_of_fields (Obj.data_mapFields hd _)), (Obj.cls_mapFields ..).trans hc, by
    rw [Obj.data_mapFields hd]; simp [rawInt]⟩
theorem nextOf_tuple_end {it l : Addr} {i : Nat} {items : Array Value} {Q : Value → Shared → Prop} (hh : A.handled = none) (hit : s.heap.IsTupleIter it l i) (hl : s.heap.IsTuple l items) (hx : items[i]? = none)
    (hE : ∀ h' e, Heap.ExtBut it s.heap h' → (∃ o, h'.get? e = some o ∧ o.cls = .type "StopIteration") → E (.ref e) { s with heap := h' }) :
    wpAny (model prog w) A (Builtin.SmallTypes.nextOf (.ref it)) Q E s := by
  obtain ⟨o, ho, hc, hd⟩ := id hit
  obtain ⟨ol, hol, _, nl, hdl⟩ := hl
  unfold Builtin.SmallTypes.nextOf
  refine wpAny_bind (wpAny_callSpecial?_slot (name := PySem.Str.ofString "__next__") hit.typeIs F.slot_tuple_iterator_next
    (wpAny_call_entry F.slot_tuple_iterator_next hit.typeIs F.entry_tuple_iterator_next ?_ (F.args_tuple_iterator_next_1 _)))
  show wpAny _ _ (field (.ref it) 0 >>= _) _ _ s
  refine wpAny_bind (wpAny_field ho hd (x := .ref l) rfl ?_)
  refine any_if_false rfl ?_
  show wpAny _ _ (field (.ref it) 1 >>= _) _ _ s
  refine wpAny_bind (wpAny_field ho hd (x := .int i 0) rfl ?_)
  show wpAny _ _ (seqItems? (.ref l) >>= _) _ _ s
  refine wpAny_bind (wpAny_seqItems hol hdl ?_)
  simp only [Int.toNat_natCast, hx]
  refine wpAny_bind (wpAny_rule ?_)
  exact stop_here (A := A.in1) hh ho hd (by simp) hE
end

theorem Draws_bytes {prog : Program} {w : World} {A : Around} (hh : A.handled = none) (it : Addr) (b : Array UInt8) (t : Tok) :
    Draws prog w A it [it] b.size (fun i v => ∃ c u, b[i]? = some c ∧ v = .int (c.toNat : Int) u) (fun i h => KBw.IsBytesIter h it b t i) where
  live := fun _ _ st => let ⟨o, ho, _⟩ := st; ⟨o, ho⟩
  frame := fun _ _ _ st hk => let ⟨o, ho, r⟩ := st; ⟨o, hk it (by simp) o ho, r⟩
  item := fun i s Q E hi st hQ => nextOf_bytes_item st (c := b[i]) (by simp [hi]) fun h' hit' hs' => hQ _ h' (s.toks + 1) ⟨_, _, by simp [hi], rfl⟩ hit' hs'
  done := fun s Q E st hE => nextOf_bytes_end hh st (by simp) hE
theorem Draws_tuple {prog : Program} {w : World} {A : Around} (hh : A.handled = none) (it l : Addr) (hne : l ≠ it) (items : Array Value) :
    Draws prog w A it [it, l] items.size (fun i v => items[i]? = some v) (fun i h => h.IsTupleIter it l i ∧ h.IsTuple l items) where
  live := fun _ _ st => let ⟨o, ho, _⟩ := st.1; ⟨o, ho⟩
  frame := fun _ _ _ st hk => ⟨st.1.at fun o e => hk it (by simp) o e, st.2.at fun o e => hk l (by simp) o e⟩
  item := fun i s Q E hi st hQ => nextOf_tuple_item st.1 st.2 (x := items[i]) (by simp [hi]) fun h' hit' hs' => hQ _ h' s.toks (by simp [hi]) ⟨hit', st.2.extBut hs'.extBut hne⟩ hs'
  done := fun s Q E st hE => nextOf_tuple_end hh st.1 st.2 (by simp) hE

def enumObj (it : Addr) : Obj := { cls := .type "enumerate", data := .fields #[.none, .bool false, .ref it, rawInt 0, .none, .none] }
theorem meets_enum (x : Value) (o : Obj) (C : Heap → Prop)
    (hi : ∀ {prog : Program} {w : World} {A : Around} {E : Value → Shared → Prop} {h : Heap} {g : Array GenState} {d : Drawn} {tk : Nat} {os : OsState} {Q : Value → Shared → Prop}, C h →
      Q (.ref h.objs.size) ⟨h.push o, g, d, tk, os⟩ → wpAny (model prog w) A (pyIter x) Q E ⟨h, g, d, tk, os⟩) :
    Meets (Builtin.«enumerate.__new__» ⟨[.type "enumerate", x], []⟩) (fun _ R s => C s.heap ∧
      R (.ok (.ret (.ref (s.heap.push o).objs.size))) { s with heap := (s.heap.push o).push (enumObj s.heap.objs.size) }) :=
  .of_wp fun prog w A R s h => by
    obtain ⟨hp, g, d, tk, os⟩ := s; obtain ⟨hl, h⟩ := h
    have hsub := sub_enumerate
    wp_walk
    refine wpAny_stack_any fun st => wpAny_pure ?_
    split
    · rename_i c _ _ _ _ _
      cases (c == Value.type "enumerate")
      · wp_walk using hi hl
        exact ⟨_, rfl, h⟩
      · wp_walk using hi hl
        exact ⟨_, rfl, h⟩
    · wp_walk using hi hl
      exact ⟨_, rfl, h⟩
section
variable {prog : Program} {w : World} {A : Around} {E : Value → Shared → Prop} {s : Shared}
theorem call_enum {x : Value} {ob : Obj} {C : Heap → Prop} {Q : Value → Shared → Prop}
    (hi : ∀ {prog : Program} {w : World} {A : Around} {E : Value → Shared → Prop} {h : Heap} {g : Array GenState} {d : Drawn} {tk : Nat} {os : OsState} {Q : Value → Shared → Prop}, C h →
      Q (.ref h.objs.size) ⟨h.push ob, g, d, tk, os⟩ → wpAny (model prog w) A (pyIter x) Q E ⟨h, g, d, tk, os⟩)
    (hC : C s.heap) (hf : ob.isFreed = false)
    (h : ∀ h', h'.get? (s.heap.objs.size + 1) = some (enumObj s.heap.objs.size) → h'.get? s.heap.objs.size = some ob → h'.objs.size = s.heap.objs.size + 2 →
      (∀ b o, s.heap.get? b = some o → h'.get? b = some o) → Q (.ref (s.heap.objs.size + 1)) { s with heap := h' }) :
    wpAny (model prog w) A (call (.type "enumerate") [x]) Q E s := by
  refine callType_new F.called_enumerate (by decide) (F.typeCall_enumerate_1 _) (F.newCall_enumerate_1 _) (fun obj => F.args_object_init_2 obj _) F.entry_enumerate_new
    (meets_enum x ob C hi) ⟨hC, ?_⟩
  have hz : (s.heap.push ob).objs.size = s.heap.objs.size + 1 := Heap.size_push ..
  show _ ∧ _
  rw [hz]
  have he : ((s.heap.push ob).push (enumObj s.heap.objs.size)).get? (s.heap.objs.size + 1) = some (enumObj s.heap.objs.size) := by
    have := Heap.get?_push_size (s.heap.push ob) (o := enumObj s.heap.objs.size) rfl
    rw [hz] at this; exact this
  exact ⟨⟨_, he, rfl⟩, h _ he (Heap.get?_push_of_some _ (Heap.get?_push_size _ hf)) (by rw [Heap.size_push, hz]) fun b o y => Heap.get?_push_of_some _ (Heap.get?_push_of_some _ y)⟩

theorem call_enum_bytes {b : Array UInt8} {t : Tok} {Q : Value → Shared → Prop}
    (h : ∀ h', IsEnum h' (s.heap.objs.size + 1) s.heap.objs.size 0 .none → KBw.IsBytesIter h' s.heap.objs.size b t 0 → h'.objs.size = s.heap.objs.size + 2 →
      (∀ b o, s.heap.get? b = some o → h'.get? b = some o) → Q (.ref (s.heap.objs.size + 1)) { s with heap := h' }) :
    wpAny (model prog w) A (call (.type "enumerate") [.bytes b t]) Q E s :=
  call_enum (C := fun _ => True) (ob := { cls := .type "bytes_iterator", data := .fields #[.bytes b t, .int 0 0] }) (fun _ q => KBw.pyIter_bytes q) trivial rfl fun h' h1 h2 h3 h4 => h h' h1 ⟨_, h2, rfl, rfl⟩ h3 h4
theorem call_enum_tuple {l : Addr} {items : Array Value} {Q : Value → Shared → Prop} (hl : s.heap.IsTuple l items)
    (h : ∀ h', IsEnum h' (s.heap.objs.size + 1) s.heap.objs.size 0 .none → h'.IsTupleIter s.heap.objs.size l 0 → h'.objs.size = s.heap.objs.size + 2 →
      (∀ b o, s.heap.get? b = some o → h'.get? b = some o) → Q (.ref (s.heap.objs.size + 1)) { s with heap := h' }) :
    wpAny (model prog w) A (call (.type "enumerate") [.ref l]) Q E s :=
  call_enum (C := fun h => h.IsTuple l items) (ob := { cls := .type "tuple_iterator", data := .fields #[.ref l, .int 0 0] }) (fun c q => wpAny_pyIter_tuple c q) hl rfl fun h' h1 h2 h3 h4 => h h' h1 ⟨_, h2, rfl, rfl⟩ h3 h4
end
end
/-! Loops -/
section
set_option maxRecDepth 100000
set_option maxHeartbeats 4000000
abbrev NoE : Value → Shared → Prop := fun _ _ => False
abbrev Kp (h h' : Heap) : Prop := ∀ b o, h.get? b = some o → h'.get? b = some o
abbrev KpBut (wr : List Addr) (h h' : Heap) : Prop := ∀ b o, b ∉ wr → h.get? b = some o → h'.get? b = some o

theorem fr_kp {h₀ h h' : Heap} {L : Addr} {m : Str → Option Value} (F : Fr h₀ L h m) (k : Kp h h') : Fr h₀ L h' m :=
  ⟨F.ns.keeps k, fun b o e => k b o (F.keep b o e), F.above⟩
theorem news_kp {h₀ h h' : Heap} {L : Addr} {news : List (Addr × Obj)} (N : News h₀ L h news) (k : Kp h h') : News h₀ L h' news :=
  fun p hp => ⟨k _ _ (N p hp).1, (N p hp).2⟩
theorem news_sub {h₀ h : Heap} {L : Addr} {news news' : List (Addr × Obj)} (N : News h₀ L h news) (hs : ∀ p ∈ news', p ∈ news) : News h₀ L h news' := fun p hp => N p (hs p hp)
/-- a new object of a callee's onto the ledger -/
theorem news_more {h₀ h h' : Heap} {L a : Addr} {o : Obj} {m : Str → Option Value} {news : List (Addr × Obj)} (F : Fr h₀ L h m) (N : News h₀ L h news) (k : Kp h h') (ha : h.objs.size ≤ a) (ho : h'.get? a = some o) :
    News h₀ L h' ((a, o) :: news) := by
  intro p hp
  rcases List.mem_cons.mp hp with rfl | hp
  · obtain ⟨oL, _, _, hL, _⟩ := F.ns
    refine ⟨ho, Nat.ne_of_gt (Nat.lt_of_lt_of_le (Heap.lt_size hL) ha), ?_⟩
    cases q : h₀.get? a with
    | none => rfl
    | some o' => exact absurd (Heap.lt_size (F.keep _ _ q)) (Nat.not_lt.mpr ha)
  · exact news_kp N k p hp
theorem news_tl {h₀ h : Heap} {L : Addr} {p : Addr × Obj} {news : List (Addr × Obj)} (N : News h₀ L h (p :: news)) : News h₀ L h news := fun q hq => N q (.tail _ hq)
theorem fr_but {h₀ h h' : Heap} {L : Addr} {m : Str → Option Value} {wr : List Addr} (F : Fr h₀ L h m) (k : KpBut wr h h') (hL : L ∉ wr) (h0 : ∀ b ∈ wr, h₀.get? b = none) : Fr h₀ L h' m :=
  ⟨F.ns.at' fun o e => k _ o hL e, fun b o e => k b o (fun hb => by rw [h0 b hb] at e; cases e) (F.keep b o e), F.above⟩
theorem news_but {h₀ h h' : Heap} {L : Addr} {news : List (Addr × Obj)} {wr : List Addr} (N : News h₀ L h news) (k : KpBut wr h h') (hn : ∀ p ∈ news, p.1 ∉ wr) : News h₀ L h' news :=
  fun p hp => ⟨k _ _ (hn p hp) (N p hp).1, (N p hp).2⟩
theorem fresh_none {h₀ h : Heap} {L a : Addr} {m : Str → Option Value} (F : Fr h₀ L h m) (ha : h.objs.size ≤ a) : h₀.get? a = none := by
  cases q : h₀.get? a with
  | none => rfl
  | some o' => exact absurd (Heap.lt_size (F.keep _ _ q)) (Nat.not_lt.mpr ha)
theorem fr_lt {h₀ h : Heap} {L : Addr} {m : Str → Option Value} (F : Fr h₀ L h m) : @LT.lt Nat _ L h.objs.size := by
  obtain ⟨oL, _, _, hL, _⟩ := F.ns
  exact Heap.lt_size hL
theorem news_lt {h₀ h : Heap} {L : Addr} {news : List (Addr × Obj)} (N : News h₀ L h news) : ∀ p ∈ news, @LT.lt Nat _ p.1 h.objs.size := fun p hp => Heap.lt_size (N p hp).1

section
variable {prog : Program} {w : World} {A : Around} {E : Value → Shared → Prop} {s : Shared} {env : Env} {R : Result → Shared → Prop}

theorem any_noE {α : Type} {M : Model} {t : Sem α} {Q : α → Shared → Prop} (h : wpAny M A t Q NoE s) : wpAny M A t Q E s := wpAny_mono h (fun _ _ x => x) fun _ _ x => x.elim
theorem clean_noE {α : Type} {M : Model} {t : Sem α} {Q : α → Shared → Prop} (h : wpC M A t Q NoE s) : wpC M A t Q E s := wpC_mono h (fun _ _ x => x) fun _ _ x => x.elim

/-- a for, one turn at a time -/
theorem forA_step {target it body orelse} (h : wpAny (model prog w) A (pyNext it) (fun r s₁ => match r with
      | none => wpAny (model prog w) A (execs orelse env) (fun f s₃ => R (.ok f) s₃) NoE s₁
      | some v => wpAny (model prog w) A (letOwnedTupleGo target it v) (fun _ s₁' =>
          wpAny (model prog w) A (assign target env v) (fun _ s₂ => wpAny (model prog w) A (execs body env) (fun f s₃ => match f with
            | .next | .cont => codeAny (model prog w) A (.forLoop target it body orelse env) R s₃
            | .brk => R (.ok .next) s₃
            | .ret v => R (.ok (.ret v)) s₃) NoE s₂) NoE s₁') NoE s₁) NoE s) : codeAny (model prog w) A (.forLoop target it body orelse env) R s := by
  refine codeAny_of_tree ?_
  show wpAny _ A ((forTurn target it body orelse env).onRaise (fun x => do noteFrame x env; theTreesLotGoes x)) _ _ s
  refine wpAny_onRaise (any_noE ?_)
  simp only [forTurn]
  refine wpAny_bind (wpAny_standAt (wpAny_bind (wpAny_onRaise (wpAny_mono h (fun r s₁ h₁ => ?_) fun _ _ h' => h'.elim))))
  cases r with
  | none => exact wpAny_pure ⟨rfl, codeAny_block (any_noE h₁)⟩
  | some v =>
    refine wpAny_bind (wpAny_mono h₁ (fun _ s₁' h₁' => ?_) fun _ _ h' => h')
    refine wpAny_bind (wpAny_mono h₁' (fun _ s₂ h₂ => wpAny_bind (wpAny_mono h₂ (fun f s₃ h₃ => ?_) fun _ _ h' => h')) fun _ _ h' => h')
    cases f with
    | next => exact wpAny_pure ⟨rfl, h₃⟩
    | cont => exact wpAny_pure ⟨rfl, h₃⟩
    | brk => exact wpAny_pure h₃
    | ret v => exact wpAny_pure h₃

theorem codeC_block {stmts : List Stmt} (h : wpC (model prog w) A (execs stmts env) (fun f s' => R (.ok f) s') NoE s) : codeC (model prog w) A (.block stmts env) R s := by
  refine codeC_of_tree ?_
  show wpC _ _ (do return Fin.done (← (execs stmts env).onRaise (fun x => do noteFrame x env; theTreesLotGoes x))) _ _ s
  exact wpC_bind (wpC_onRaise (wpC_mono h (fun f s' h' => wpC_pure h') fun _ _ h' => h'.elim))

theorem forC_step {target it body orelse} (h : wpAny (model prog w) A (pyNext it) (fun r s₁ => match r with
      | none => wpC (model prog w) A (execs orelse env) (fun f s₃ => R (.ok f) s₃) NoE s₁
      | some v => wpAny (model prog w) A (letOwnedTupleGo target it v) (fun _ s₁' =>
          wpAny (model prog w) A (assign target env v) (fun _ s₂ => wpC (model prog w) A (execs body env) (fun f s₃ => match f with
            | .next | .cont => codeC (model prog w) A (.forLoop target it body orelse env) R s₃
            | .brk => R (.ok .next) s₃
            | .ret v => R (.ok (.ret v)) s₃) NoE s₂) NoE s₁') NoE s₁) NoE s) : codeC (model prog w) A (.forLoop target it body orelse env) R s := by
  refine codeC_of_tree ?_
  show wpC _ A ((forTurn target it body orelse env).onRaise (fun x => do noteFrame x env; theTreesLotGoes x)) _ _ s
  refine wpC_onRaise (clean_noE ?_)
  simp only [forTurn]
  refine wpC_seq (wpAny_standAt (wpC_seq (wpAny_onRaise (wpAny_mono h (fun r s₁ h₁ => ?_) fun _ _ h' => h'.elim))))
  cases r with
  | none => exact wpC_pure ⟨rfl, codeC_block h₁⟩
  | some v =>
    refine wpC_seq (wpAny_mono h₁ (fun _ s₁' h₁' => ?_) fun _ _ h' => h')
    refine wpC_seq (wpAny_mono h₁' (fun _ s₂ h₂ => wpC_bind (wpC_mono h₂ (fun f s₃ h₃ => ?_) fun _ _ h' => h')) fun _ _ h' => h')
    cases f with
    | next => exact wpC_pure ⟨rfl, h₃⟩
    | cont => exact wpC_pure ⟨rfl, h₃⟩
    | brk => exact wpC_pure h₃
    | ret v => exact wpC_pure h₃

/-- the loop code's end, as a statement's -/
def Ret (Q : Flow → Shared → Prop) : Result → Shared → Prop
  | .ok f, s' => Q f s'
  | .error _, _ => False
theorem wpC_runOwn {M : Model} {c : Code} {Q : Flow → Shared → Prop} (hc : codeC M A c (Ret Q) s) : wpC M A (runOwn c env) Q E s := by
  unfold runOwn
  refine wpC_onRaise (wpC_run (codeC_mono hc fun r s' h => ?_))
  cases r with
  | ok f => exact h
  | error e => exact h.elim
theorem forA {target iter body orelse pos} {Q : Flow → Shared → Prop}
    (h : wpAny (model prog w) A (eval iter env) (fun x s₁ => wpAny (model prog w) A (pyIter x) (fun it s₂ => codeAny (model prog w) A (.forLoop target it body orelse env) (Ret Q) s₂) E s₁) E s)
    (hs : ∀ x, foldedSetIterable iter env x = pure x := by intro _; rfl) :
    wpAny (model prog w) A (exec (.For target iter body orelse pos) env) Q E s := by
  refine wpAny_For (wpAny_mono h (fun x s₁ h₁ => wpAny_mono h₁ (fun it s₂ h₂ => codeAny_mono h₂ fun r s' hr => ?_) fun _ _ e => e) fun _ _ e => e) hs
  cases r with
  | ok f => exact hr
  | error e => exact hr.elim
theorem forC {target iter body orelse pos} {Q : Flow → Shared → Prop}
    (h : wpAny (model prog w) A (eval iter env) (fun x s₁ => wpAny (model prog w) A (pyIter x) (fun it s₂ => codeC (model prog w) A (.forLoop target it body orelse env) (Ret Q) s₂) E s₁) E s)
    (hs : ∀ x, foldedSetIterable iter env x = pure x := by intro _; rfl) :
    wpC (model prog w) A (exec (.For target iter body orelse pos) env) Q E s := by
  rw [exec_For]
  refine wpC_seq (wpAny_standAt (wpC_seq (wpAny_mono h (fun x s₁ h₁ => wpC_bind (wpC_of_any (wpAny_of_eq (hs x) ?_))) fun _ _ e => e)))
  refine wpC_seq (wpAny_standAt (wpC_seq (wpAny_holding (wpAny_mono h₁ (fun it s₂ h₂ => wpC_runOwn h₂) fun _ _ e => e))))

theorem go_name {x : Str} {px : Pos} {it v : Value} {Q : Unit → Shared → Prop} (h : Q () s) : wpAny (model prog w) A (letOwnedTupleGo (.Name x px) it v) Q E s := wpAny_of_eq (a := ()) rfl h
theorem go_tupleIter {elts k pos I l i} {v : Value} {Q : Unit → Shared → Prop} (hi : s.heap.IsTupleIter I l i) (h : Q () s) : wpAny (model prog w) A (letOwnedTupleGo (.Tuple elts k pos) (.ref I) v) Q E s := by
  obtain ⟨o, ho, hc, hd⟩ := hi
  cases v with
  | ref a =>
    show wpAny _ _ (load I >>= _) _ _ _
    refine wpAny_bind (wpAny_load ho ?_)
    rw [hc, hd]
    refine any_if_false ?_ (wpAny_pure h)
    rw [show (["enumerate", "zip", "dict_itemiterator", "dict_reverseitemiterator", "odict_iterator", "itertools.zip_longest", "itertools.pairwise"].contains "tuple_iterator") = false from by decide +kernel]
    rfl
  | _ => exact wpAny_pure h

theorem assign_pair {x0 x1 : Str} {p0 p1 pos : Pos} {k : Nat} {t : Addr} {v0 v1 : Value} {Q : Unit → Shared → Prop} (hh : A.handled = none) (ht : s.heap.IsTuple t #[v0, v1])
    (h : ∀ h', Kp s.heap h' → wpAny (model prog w) A (storeName env x0 v0) (fun _ s₁ => wpAny (model prog w) A (storeName env x1 v1) Q E s₁) E { s with heap := h' }) :
    wpAny (model prog w) A (assign (.Tuple [.Name x0 p0, .Name x1 p1] k pos) env (.ref t)) Q E s := by
  refine wpAny_assign_Tuple hh ht rfl rfl fun h' hx => ?_
  show wpAny _ A (do holding [v1] (assign (.Name x0 p0) env v0); do holding [] (assign (.Name x1 p1) env v1); pure ()) _ _ _
  refine wpAny_bind (wpAny_holding (wpAny_assign_Name ?_))
  refine wpAny_mono (h h' fun b o e => hx b o (Nat.ne_of_lt (Heap.lt_size e)) e) (fun _ s₁ h₁ => ?_) fun _ _ e => e
  exact wpAny_bind (wpAny_holding (wpAny_assign_Name (wpAny_mono h₁ (fun _ _ q => wpAny_pure q) fun _ _ e => e)))
end
end
/-! Enter -/
section
set_option maxRecDepth 100000
set_option maxHeartbeats 4000000
section
variable {prog : Program} {w : World} {A : Around} {E : Value → Shared → Prop} {s : Shared} {R : Result → Shared → Prop}
theorem codeC_func {body env} (h : wpC (model prog w) (A.deeper env) (execs body env) (fun f s' => R (.ok (.ret (match f with | .ret v => v | _ => .none))) s') NoE s) :
    codeC (model prog w) A (.func body env) R s := by
  refine codeC_of_tree ?_
  show wpC _ (A.deeper env) (do point; match ← (execs body env).onRaise (leaving env) with | .ret v => ret v | _ => ret .none) _ _ s
  refine wpC_seq (wpAny_point (wpC_bind (wpC_onRaise (wpC_mono h (fun f s' h' => ?_) fun _ _ h' => h'.elim))))
  cases f <;> exact wpC_pure h'
theorem codeC_call_function {a : Addr} {args : Args} {o : Obj} {fd : FuncData} {body : List Stmt} (hroom : A.depth < recursionLimit)
    (ho : s.heap.get? a = some o) (hd' : o.data = .func fd) (hco : fd.scope.isCoroutine = false) (hgen : fd.scope.isGenerator = false) (hbody : fd.body = .stmts body) (hcd : s.heap.CodeRec fd.code fd.qualname)
    (h : wpAny (model prog w) A.in1 (bindArgs fd args) (fun binds s₁ =>
      wpAny (model prog w) A.in1 (newFunctionEnv fd.scope fd.globals fd.closure binds (fd.qualname ++ ".<locals>.") (some a) fd.code none fd.builtins)
        (fun env s₂ => s₂.heap.NoLimit ∧ codeC (model prog w) A (.func body env) R s₂) NoE s₁) NoE s) :
    codeC (model prog w) A (.call (.ref a) args) R s := by
  refine codeC_of_tree (wpC_of_any ?_)
  show wpAny _ A.in1 (callAny (.ref a) args) _ _ s
  simp only [callAny]
  refine wpAny_bind (wpAny_load ho ?_)
  obtain ⟨c, oc, vs, tq, hc, hoc, hdc, hq⟩ := hcd
  simp only [hd', callFunction, hco, hgen, hbody, hc]
  rw [hc] at h
  refine wpAny_bind (m := field (.ref c) 1) (wpAny_field hoc hdc hq (wpAny_bind (wpAny_pure ?_)))
  exact wpAny_bind (any_noE (wpAny_mono h (fun binds s₁ h₁ => wpAny_bind (any_noE (wpAny_mono h₁ (fun env s₂ h₂ => wpAny_bind (wpAny_enterFrame h₂.1 hroom
    (wpAny_pure (And.intro rfl h₂.2)))) fun _ _ h' => h'))) fun _ _ h' => h'))

variable {K : Frag} {p : Program} {loose : List Str} {mean : ExcName → Option Value} {mg mb : Str → Option Value}
  {f : Addr} {name qual : Str} {params : Arguments} {body : List Stmt} {scope : Scope} {dV kV doc pm cdv ct oc : Value} {an od : Option Addr} {osl : Array (Option Value)} {vals : List Value} {binds : List (Str × Value)} {Q : Value → Shared → Prop}

theorem callA (X : K.In s.heap) (T : Top p loose mean mg mb s.heap) (hroom : A.depth < recursionLimit)
    (ho : K.lookup f = some ⟨oc, od, .func (fnOf name qual params body scope dV kV doc pm an cdv ct), osl⟩) (hcd : codeIn K cdv qual = true)
    (hbind : bindArgs (fnOf name qual params body scope dV kV doc pm an cdv ct) ⟨vals, []⟩ = pure binds) (hloc : ∀ y ∈ binds, scope.names.lookup y.1 = some .local)
    (hcell : ∀ x ∈ scope.names, x.2 ≠ .cell) (hco : scope.isCoroutine = false) (hgen : scope.isGenerator = false) (hk : scope.kind = .function)
    (h : ∀ h₁, Fr s.heap s.heap.objs.size h₁ (fun y => binds.reverse.lookup y) → News s.heap s.heap.objs.size h₁ [] → K.In s.heap → Top p loose mean mg mb s.heap →
      wpAny (model prog w) (A.deeper (envOf qual scope s.heap.objs.size f cdv)) (execs body (envOf qual scope s.heap.objs.size f cdv))
        (fun fl s' => Q (match fl with | .ret v => v | _ => .none) s') NoE { s with heap := h₁, toks := s.toks + binds.length }) :
    wpAny (model prog w) A (call (.ref f) vals) Q E s := by
  refine wpAny_call (codeAny_call_function hroom (X _ _ ho) rfl hco hgen rfl (codeRec_of X hcd) ?_)
  rw [hbind]
  refine wpAny_pure (wpAny_newFunctionEnv hcell hloc (fun h₁ hns hsb => ⟨T.nolimit.fresh _ hsb, ?_⟩) hk)
  show codeAny _ _ (.func body (envOf qual scope s.heap.objs.size f cdv)) _ _
  refine codeAny_func (any_noE (h h₁ ⟨hns, fun b o e => hsb.extBut b o (Nat.ne_of_lt (Heap.lt_size e)) (Heap.get?_push_of_some _ e), Nat.le_refl _⟩ News.nil X T))
theorem callC (X : K.In s.heap) (T : Top p loose mean mg mb s.heap) (hroom : A.depth < recursionLimit)
    (ho : K.lookup f = some ⟨oc, od, .func (fnOf name qual params body scope dV kV doc pm an cdv ct), osl⟩) (hcd : codeIn K cdv qual = true)
    (hbind : bindArgs (fnOf name qual params body scope dV kV doc pm an cdv ct) ⟨vals, []⟩ = pure binds) (hloc : ∀ y ∈ binds, scope.names.lookup y.1 = some .local)
    (hcell : ∀ x ∈ scope.names, x.2 ≠ .cell) (hco : scope.isCoroutine = false) (hgen : scope.isGenerator = false) (hk : scope.kind = .function)
    (h : ∀ h₁, Fr s.heap s.heap.objs.size h₁ (fun y => binds.reverse.lookup y) → News s.heap s.heap.objs.size h₁ [] → K.In s.heap → Top p loose mean mg mb s.heap →
      wpC (model prog w) (A.deeper (envOf qual scope s.heap.objs.size f cdv)) (execs body (envOf qual scope s.heap.objs.size f cdv))
        (fun fl s' => Q (match fl with | .ret v => v | _ => .none) s') NoE { s with heap := h₁, toks := s.toks + binds.length }) :
    wpC (model prog w) A (call (.ref f) vals) Q E s := by
  refine wpC_call (codeC_call_function hroom (X _ _ ho) rfl hco hgen rfl (codeRec_of X hcd) ?_)
  rw [hbind]
  refine wpAny_pure (wpAny_newFunctionEnv hcell hloc (fun h₁ hns hsb => ⟨T.nolimit.fresh _ hsb, ?_⟩) hk)
  show codeC _ _ (.func body (envOf qual scope s.heap.objs.size f cdv)) _ _
  refine codeC_func (h h₁ ⟨hns, fun b o e => hsb.extBut b o (Nat.ne_of_lt (Heap.lt_size e)) (Heap.get?_push_of_some _ e), Nat.le_refl _⟩ News.nil X T)
end
end
/-! Loops2 -/
section
set_option maxRecDepth 100000
set_option maxHeartbeats 4000000
theorem nin1 {a b : Addr} (h1 : @Ne Nat a b) : a ∉ [b] := by
  intro h
  rcases List.mem_cons.mp h with h | h
  · exact h1 h
  · cases h
theorem nin2 {a b c : Addr} (h1 : @Ne Nat a b) (h2 : @Ne Nat a c) : a ∉ [b, c] := by
  intro h
  rcases List.mem_cons.mp h with h | h
  · exact h1 h
  · exact nin1 h2 h
theorem all1 {P : Addr → Prop} {b : Addr} (h1 : P b) : ∀ x ∈ [b], P x := by
  intro x h
  rcases List.mem_cons.mp h with rfl | h
  · exact h1
  · cases h
theorem all2 {P : Addr → Prop} {b c : Addr} (h1 : P b) (h2 : P c) : ∀ x ∈ [b, c], P x := by
  intro x h
  rcases List.mem_cons.mp h with rfl | h
  · exact h1
  · exact all1 h2 x h
theorem same_but {a : Addr} {h h' : Heap} (k : Heap.SameBut a h h') : KpBut [a] h h' := fun b o hb q => (k.2 b fun z => hb (by rw [z]; exact .head _)).trans q
theorem ext_but {a : Addr} {h h' : Heap} (k : Heap.ExtBut a h h') : KpBut [a] h h' := fun b o hb q => k b o (fun z => hb (by rw [z]; exact .head _)) q
theorem news_one {h₀ h : Heap} {L a : Addr} {o : Obj} (ho : h.get? a = some o) (hL : @Ne Nat a L) (h0 : h₀.get? a = none) : News h₀ L h [(a, o)] := by
  intro p hp
  rcases List.mem_cons.mp hp with rfl | hp
  · exact ⟨ho, hL, h0⟩
  · cases hp
theorem news_cons {h₀ h : Heap} {L a : Addr} {o : Obj} {news : List (Addr × Obj)} (ho : h.get? a = some o) (hL : @Ne Nat a L) (h0 : h₀.get? a = none) (N : News h₀ L h news) : News h₀ L h ((a, o) :: news) := by
  intro p hp
  rcases List.mem_cons.mp hp with rfl | hp
  · exact ⟨ho, hL, h0⟩
  · exact N p hp
section
variable {prog : Program} {w : World} {A : Around} {E : Value → Shared → Prop} {env : Env} {R : Result → Shared → Prop}

/-- a for by what holds ahead of each turn -/
theorem forA_inv {target it body orelse} (n : Nat) (J : Nat → Shared → Prop)
    (turn : ∀ i s, i < n → J i s → wpAny (model prog w) A (pyNext it) (fun r s₁ => ∃ v, r = some v ∧ wpAny (model prog w) A (letOwnedTupleGo target it v) (fun _ s₁' =>
          wpAny (model prog w) A (assign target env v) (fun _ s₂ => wpAny (model prog w) A (execs body env) (fun f s₃ => match f with
            | .next | .cont => J (i + 1) s₃
            | .brk => R (.ok .next) s₃
            | .ret v => R (.ok (.ret v)) s₃) NoE s₂) NoE s₁') NoE s₁) NoE s)
    (done : ∀ s, J n s → wpAny (model prog w) A (pyNext it) (fun r s₁ => r = none ∧ wpAny (model prog w) A (execs orelse env) (fun f s₃ => R (.ok f) s₃) NoE s₁) NoE s) :
    ∀ (k i : Nat) (s : Shared), k = n - i → i ≤ n → J i s → codeAny (model prog w) A (.forLoop target it body orelse env) R s := by
  intro k
  induction k with
  | zero =>
    intro i s hk hi hJ
    obtain rfl : i = n := by omega
    refine forA_step (wpAny_mono (done s hJ) (fun r s₁ h₁ => ?_) fun _ _ e => e)
    obtain ⟨rfl, h₁⟩ := h₁
    exact h₁
  | succ k ih =>
    intro i s hk hi hJ
    refine forA_step (wpAny_mono (turn i s (by omega) hJ) (fun r s₁ h₁ => ?_) fun _ _ e => e)
    obtain ⟨v, rfl, h₁⟩ := h₁
    refine wpAny_mono h₁ (fun _ s₁' h₂ => wpAny_mono h₂ (fun _ s₂ h₃ => wpAny_mono h₃ (fun f s₃ h₄ => ?_) fun _ _ e => e) fun _ _ e => e) fun _ _ e => e
    cases f with
    | next => exact ih (i + 1) s₃ (by omega) (by omega) h₄
    | cont => exact ih (i + 1) s₃ (by omega) (by omega) h₄
    | brk => exact h₄
    | ret v => exact h₄
theorem forC_inv {target it body orelse} (n : Nat) (J : Nat → Shared → Prop)
    (turn : ∀ i s, i < n → J i s → wpAny (model prog w) A (pyNext it) (fun r s₁ => ∃ v, r = some v ∧ wpAny (model prog w) A (letOwnedTupleGo target it v) (fun _ s₁' =>
          wpAny (model prog w) A (assign target env v) (fun _ s₂ => wpC (model prog w) A (execs body env) (fun f s₃ => match f with
            | .next | .cont => J (i + 1) s₃
            | .brk => R (.ok .next) s₃
            | .ret v => R (.ok (.ret v)) s₃) NoE s₂) NoE s₁') NoE s₁) NoE s)
    (done : ∀ s, J n s → wpAny (model prog w) A (pyNext it) (fun r s₁ => r = none ∧ wpC (model prog w) A (execs orelse env) (fun f s₃ => R (.ok f) s₃) NoE s₁) NoE s) :
    ∀ (k i : Nat) (s : Shared), k = n - i → i ≤ n → J i s → codeC (model prog w) A (.forLoop target it body orelse env) R s := by
  intro k
  induction k with
  | zero =>
    intro i s hk hi hJ
    obtain rfl : i = n := by omega
    refine forC_step (wpAny_mono (done s hJ) (fun r s₁ h₁ => ?_) fun _ _ e => e)
    obtain ⟨rfl, h₁⟩ := h₁
    exact h₁
  | succ k ih =>
    intro i s hk hi hJ
    refine forC_step (wpAny_mono (turn i s (by omega) hJ) (fun r s₁ h₁ => ?_) fun _ _ e => e)
    obtain ⟨v, rfl, h₁⟩ := h₁
    refine wpAny_mono h₁ (fun _ s₁' h₂ => wpAny_mono h₂ (fun _ s₂ h₃ => wpC_mono h₃ (fun f s₃ h₄ => ?_) fun _ _ e => e) fun _ _ e => e) fun _ _ e => e
    cases f with
    | next => exact ih (i + 1) s₃ (by omega) (by omega) h₄
    | cont => exact ih (i + 1) s₃ (by omega) (by omega) h₄
    | brk => exact h₄
    | ret v => exact h₄

variable {s : Shared}
/-- a turn of «for x0, x1 in enumerate(..)» up to its body -/
theorem enum_turn {x0 x1 : Str} {p0 p1 pos : Pos} {k : Nat} {e it : Addr} {fp : List Addr} {n i : Nat} {P : Nat → Value → Prop} {St : Nat → Heap → Prop} {old : Value} {Q : Unit → Shared → Prop} (hh : A.handled = none)
    (D : Draws prog w A.in1 it fp n P St) (he : IsEnum s.heap e it i old) (hst : St i s.heap) (hlt : i < n) (hne : e ≠ it) (hef : e ∉ fp)
    (h : ∀ x tx h' tk, P i x → (∃ old', IsEnum h' e it ((i : Int) + 1) old') → St (i + 1) h' → KpBut [e, it] s.heap h' →
      wpAny (model prog w) A (storeName env x0 (.int i tx)) (fun _ s₁ => wpAny (model prog w) A (storeName env x1 x) Q NoE s₁) NoE { s with heap := h', toks := tk }) :
    wpAny (model prog w) A (pyNext (.ref e)) (fun r s₁ => ∃ v, r = some v ∧ wpAny (model prog w) A (letOwnedTupleGo (.Tuple [.Name x0 p0, .Name x1 p1] k pos) (.ref e) v) (fun _ s₁' =>
      wpAny (model prog w) A (assign (.Tuple [.Name x0 p0, .Name x1 p1] k pos) env v) Q NoE s₁') NoE s₁) NoE s := by
  refine wpAny_pyNext_enum_itemD D he hst hlt hne hef fun x h₁ tk hP ho hs' hT hsz hk => ⟨_, rfl, ?_⟩
  have helt : e < s.heap.objs.size := Heap.lt_size he
  refine wpAny_letOwnedTupleGo_enum ho fun h₂ he₂ hs₂ => ?_
  have hT₂ : h₂.IsTuple s.heap.objs.size #[.int i tk, x] := ⟨_, (hs₂.2 _ (Nat.ne_of_gt helt)).trans hT, rfl, _, rfl⟩
  refine assign_pair hh hT₂ fun h₃ hk₃ => ?_
  refine h x tk h₃ (tk + 1) hP ⟨_, hk₃ _ _ he₂⟩ ?_ fun b o hb q => ?_
  · exact D.frame _ _ _ hs' fun b hb o q => hk₃ _ _ ((hs₂.2 b fun z => hef (z ▸ hb)).trans q)
  · have hbe : b ≠ e := fun z => hb (by simp [z])
    have hbi : b ≠ it := fun z => hb (by simp [z])
    exact hk₃ _ _ ((hs₂.2 b hbe).trans (hk b o hbe hbi q))
theorem enum_done {e it : Addr} {fp : List Addr} {n : Nat} {P : Nat → Value → Prop} {St : Nat → Heap → Prop} {i : Int} {old : Value} {Q : Shared → Prop}
    (D : Draws prog w A.in1 it fp n P St) (he : IsEnum s.heap e it i old) (hst : St n s.heap) (h : ∀ h', KpBut [e, it] s.heap h' → Q { s with heap := h' }) :
    wpAny (model prog w) A (pyNext (.ref e)) (fun r s₁ => r = none ∧ Q s₁) NoE s :=
  wpAny_pyNext_enum_endD D he hst fun h' hx => ⟨rfl, h h' fun b o hb q => hx b o (fun z => hb (by simp [z])) q⟩
end
end
/-! Plain -/
section
set_option maxRecDepth 100000
/-- the kinds' letters by mode / 4096 -/
def kinds : List Nat := [63, 112, 99, 63, 100, 63, 98, 63, 45, 63, 108, 63, 115, 63, 63, 63]
/-- the sign of place p (0 to 8) in the row of m -/
def signAt (m p : Nat) : Nat :=
  if p % 3 = 2 ∧ m / 2 ^ (11 - p / 3) % 2 = 1 then
    (if p / 3 = 2 then (if m / 2 ^ (8 - p) % 2 = 1 then 116 else 84) else (if m / 2 ^ (8 - p) % 2 = 1 then 115 else 83))
  else if m / 2 ^ (8 - p) % 2 = 1 then [114, 119, 120].getD (p % 3) 0 else 45
def codeAt (m i : Nat) : Nat := match i with
  | 0 => kinds.getD (m / 4096) 63
  | p + 1 => signAt m p
def codes (m : Nat) : List Nat := (List.range 10).map (codeAt m)
theorem codes_length (m : Nat) : (codes m).length = 10 := by simp [codes]
theorem codes_get {m i : Nat} (h : i < 10) : (codes m)[i]? = some (codeAt m i) := by
  unfold codes; rw [List.getElem?_map, List.getElem?_range h]; rfl
theorem codes_take {m i : Nat} (h : i < 10) : (codes m).take (i + 1) = (codes m).take i ++ [codeAt m i] := by
  rw [List.take_add_one, codes_get h]; rfl
def one (c : Nat) : Str := ⟨#[c]⟩

/-- the table of filemode: for each of the ten places the masks and letters -/
def es : Nat → List (Nat × Nat)
  | 0 => [(40960, 108), (49152, 115), (32768, 45), (24576, 98), (16384, 100), (8192, 99), (4096, 112)]
  | 1 => [(256, 114)]
  | 2 => [(128, 119)]
  | 3 => [(2112, 115), (2048, 83), (64, 120)]
  | 4 => [(32, 114)]
  | 5 => [(16, 119)]
  | 6 => [(1032, 115), (1024, 83), (8, 120)]
  | 7 => [(4, 114)]
  | 8 => [(2, 119)]
  | 9 => [(513, 116), (512, 84), (1, 120)]
  | _ => []
def test (i m b : Nat) : Bool := if i = 0 then m &&& 61440 == b else m &&& b == b
def pickFrom (i m : Nat) : List (Nat × Nat) → Nat
  | [] => if i = 0 then 63 else 45
  | e :: r => if test i m e.1 then e.2 else pickFrom i m r

theorem and_bit (m k : Nat) : m &&& 2 ^ k = 2 ^ k * (m / 2 ^ k % 2) := by
  have hm : m / 2 ^ k % 2 = 0 ∨ m / 2 ^ k % 2 = 1 := by omega
  have hb := Nat.testBit_eq_decide_div_mod_eq (x := m) (i := k)
  apply Nat.eq_of_testBit_eq
  intro i
  rw [Nat.testBit_and, Nat.testBit_two_pow]
  rcases hm with h | h
  · rw [h] at hb ⊢
    by_cases e : k = i
    · subst e; simp [hb]
    · simp [e]
  · rw [h] at hb ⊢
    rw [Nat.mul_one, Nat.testBit_two_pow]
    by_cases e : k = i
    · subst e; simp [hb]
    · simp [e]
theorem and_high {m : Nat} (h : m < 65536) : m &&& 61440 = 4096 * (m / 4096) := by
  have e : (61440 : Nat) = 2 ^ 12 ||| 2 ^ 13 ||| 2 ^ 14 ||| 2 ^ 15 := by decide
  rw [e, Nat.and_or_distrib_left, Nat.and_or_distrib_left, Nat.and_or_distrib_left, and_bit, and_bit, and_bit, and_bit]
  have q : m / 4096 < 16 := by omega
  have a : m / 2 ^ 12 = m / 4096 := rfl
  have b : m / 2 ^ 13 = m / 4096 / 2 := by rw [Nat.div_div_eq_div_mul]
  have c : m / 2 ^ 14 = m / 4096 / 4 := by rw [Nat.div_div_eq_div_mul]
  have d : m / 2 ^ 15 = m / 4096 / 8 := by rw [Nat.div_div_eq_div_mul]
  rw [a, b, c, d]
  generalize m / 4096 = x at q
  revert x
  decide
theorem test_bit {i m k : Nat} (hi : i ≠ 0) : test i m (2 ^ k) = decide (m / 2 ^ k % 2 = 1) := by
  unfold test
  rw [if_neg hi, and_bit]
  have : m / 2 ^ k % 2 = 0 ∨ m / 2 ^ k % 2 = 1 := by omega
  have p : 2 ^ k > 0 := Nat.two_pow_pos k
  rcases this with h | h
  · rw [h]; simp; omega
  · rw [h]; simp
theorem two_bits {a b : Nat} (h : a ≠ b) (x y : Nat) (hx : x = 0 ∨ x = 1) (hy : y = 0 ∨ y = 1) : (2 ^ a * x ||| 2 ^ b * y == 2 ^ a ||| 2 ^ b) = (decide (x = 1) && decide (y = 1)) := by
  rcases hx with rfl | rfl <;> rcases hy with rfl | rfl
  · simp
    intro e
    have := congrArg (Nat.testBit · a) e
    simp [Nat.testBit_or, Nat.testBit_two_pow] at this
  · simp
    intro e
    have := congrArg (Nat.testBit · a) e
    simp [Nat.testBit_or, Nat.testBit_two_pow, Ne.symm h] at this
  · simp
    intro e
    have := congrArg (Nat.testBit · b) e
    simp [Nat.testBit_or, Nat.testBit_two_pow, h] at this
  · simp
theorem test_two {i m a b : Nat} (hi : i ≠ 0) (h : a ≠ b) : test i m (2 ^ a ||| 2 ^ b) = (decide (m / 2 ^ a % 2 = 1) && decide (m / 2 ^ b % 2 = 1)) := by
  unfold test
  rw [if_neg hi, Nat.and_or_distrib_left, and_bit, and_bit]
  exact two_bits h _ _ (by omega) (by omega)

theorem pick_kind {m : Nat} (h : m < 65536) : pickFrom 0 m (es 0) = codeAt m 0 := by
  simp only [es, pickFrom, test, if_true, and_high h, codeAt]
  have q : m / 4096 < 16 := by omega
  generalize m / 4096 = x at q
  revert x
  decide
theorem pick_plain {m k c p : Nat} (hp : p % 3 ≠ 2) (hk : 8 - p = k) (hc : [114, 119, 120].getD (p % 3) 0 = c) : pickFrom (p + 1) m [(2 ^ k, c)] = signAt m p := by
  simp only [pickFrom, test_bit (Nat.succ_ne_zero p), signAt, hk, hc]
  by_cases h : m / 2 ^ k % 2 = 1 <;> simp [h, hp]
theorem pick_x {m k a p c C : Nat} (hp : p % 3 = 2) (hk : 8 - p = k) (ha : 11 - p / 3 = a) (hak : a ≠ k) (hc : (if p / 3 = 2 then 116 else 115) = c) (hC : (if p / 3 = 2 then 84 else 83) = C) :
    pickFrom (p + 1) m [(2 ^ a ||| 2 ^ k, c), (2 ^ a, C), (2 ^ k, 120)] = signAt m p := by
  simp only [pickFrom, test_bit (Nat.succ_ne_zero p), test_two (Nat.succ_ne_zero p) hak, signAt, hk, ha, hp]
  subst hc hC
  by_cases h : m / 2 ^ k % 2 = 1 <;> by_cases h' : m / 2 ^ a % 2 = 1 <;> by_cases h'' : p / 3 = 2 <;> simp [h, h', h'']
theorem pick_eq {m i : Nat} (h : m < 65536) (hi : i < 10) : pickFrom i m (es i) = codeAt m i := by
  match i, hi with
  | 0, _ => exact pick_kind h
  | 1, _ => exact pick_plain (p := 0) (k := 8) (by decide) rfl rfl
  | 2, _ => exact pick_plain (p := 1) (k := 7) (by decide) rfl rfl
  | 3, _ => exact pick_x (p := 2) (k := 6) (a := 11) (by decide) rfl rfl (by decide) rfl rfl
  | 4, _ => exact pick_plain (p := 3) (k := 5) (by decide) rfl rfl
  | 5, _ => exact pick_plain (p := 4) (k := 4) (by decide) rfl rfl
  | 6, _ => exact pick_x (p := 5) (k := 3) (a := 10) (by decide) rfl rfl (by decide) rfl rfl
  | 7, _ => exact pick_plain (p := 6) (k := 2) (by decide) rfl rfl
  | 8, _ => exact pick_plain (p := 7) (k := 1) (by decide) rfl rfl
  | 9, _ => exact pick_x (p := 8) (k := 0) (a := 9) (by decide) rfl rfl (by decide) rfl rfl
  | n + 10, h => omega
theorem bitAnd_nat (a b : Nat) : Builtin.bitAnd (a : Int) (b : Int) = ((a &&& b : Nat) : Int) := by
  unfold Builtin.bitAnd
  rw [decide_eq_true (Int.natCast_nonneg a), decide_eq_true (Int.natCast_nonneg b)]
  simp
end
/-! Top -/
section
set_option maxRecDepth 100000
set_option maxHeartbeats 8000000
open_top hd for PySem.Challenge.rw_pg0089_01
end
/-! FM -/
theorem fresh_FM : True ∧ True := by
  w_top off
  first
    | (walk1; done)
    | exact ⟨trivial, trivial⟩
section
set_option maxRecDepth 100000
set_option maxHeartbeats 8000000
section
variable {w : World} {A : Around} {E : Value → Shared → Prop} {s : Shared} {mean : ExcName → Option Value} {mg mb : Str → Option Value}

theorem ifmt_A {mode : Int} {t : Tok} {Q : Value → Shared → Prop} (X : (hd.heap_39 w.params).In s.heap) (T : Top hd.view_39 (looseW hd.view_39 [Str.ofString "_filemode_table"]) mean mg mb s.heap)
    (hdp : A.depth < recursionLimit) (hQ : ∀ h' tk t', Kp s.heap h' → Q (.int (Builtin.bitAnd mode 61440) t') { s with heap := h', toks := tk }) :
    wpAny (model PySem.Challenge.rw_pg0089_01.row.prog w) A (call (.ref 35) [.int mode t]) Q E s := by
  revert X; k_fill; intro X
  refine' callA (binds := [(Str.ofString "mode", .int mode t)]) X T hdp ?ho ?hcd ?hb ?hl ?hc ?c1 ?c2 ?c3 ?_
  case ho => k_dflt k_is
  case hcd => k_dflt k_is
  case hb => rfl
  case hl => exact locs rfl
  case hc => decide
  case c1 => rfl
  case c2 => rfl
  case c3 => rfl
  intro h₁ F N X' T'
  k_steps
  exact hQ _ _ _ (Fr.keep (by assumption))
theorem imode_A {mode : Int} {t : Tok} {Q : Value → Shared → Prop} (X : (hd.heap_39 w.params).In s.heap) (T : Top hd.view_39 (looseW hd.view_39 [Str.ofString "_filemode_table"]) mean mg mb s.heap)
    (hdp : A.depth < recursionLimit) (hQ : ∀ h' tk t', Kp s.heap h' → Q (.int (Builtin.bitAnd mode 4095) t') { s with heap := h', toks := tk }) :
    wpAny (model PySem.Challenge.rw_pg0089_01.row.prog w) A (call (.ref 28) [.int mode t]) Q E s := by
  revert X; k_fill; intro X
  refine' callA (binds := [(Str.ofString "mode", .int mode t)]) X T hdp ?ho ?hcd ?hb ?hl ?hc ?c1 ?c2 ?c3 ?_
  case ho => k_dflt k_is
  case hcd => k_dflt k_is
  case hb => rfl
  case hl => exact locs rfl
  case hc => decide
  case c1 => rfl
  case c2 => rfl
  case c3 => rfl
  intro h₁ F N X' T'
  k_steps
  exact hQ _ _ _ (Fr.keep (by assumption))

def tabItems : Array Value := #[.ref 43, .ref 45, .ref 47, .ref 51, .ref 53, .ref 55, .ref 59, .ref 61, .ref 63, .ref 67]
def EntryAt (h : Heap) (v : Value) (e : Nat × Nat) : Prop := ∃ b tb tc, v = .ref b ∧ h.IsTuple b #[.int (e.1 : Int) tb, .str (one e.2) tc]
theorem tab_facts {h : Heap} (X : (hd.heap_39 w.params).In h) : ∀ i : Nat, i < 10 → ∃ a its, tabItems[i]? = some (.ref a) ∧ h.IsTuple a its ∧ its.size = (es i).length ∧
    ∀ (j : Nat) e, (es i)[j]? = some e → ∃ v, its[j]? = some v ∧ EntryAt h v e := by
  intro i hi
  have tup : ∀ a o its, (hd.heap_39 w.params).lookup a = some o → o.cls = .type "tuple" → o.data = .seq its → h.IsTuple a its := fun a o its e c d => ⟨o, X _ _ e, c, _, d⟩
  have seven : ∀ {its : Array Value} {l : List (Nat × Nat)}, its.size = l.length → (∀ (j : Nat) v e, its[j]? = some v → l[j]? = some e → EntryAt h v e) → ∀ (j : Nat) e, l[j]? = some e → ∃ v, its[j]? = some v ∧ EntryAt h v e := by
    intro its l hz hf j e he
    have hj : j < its.size := by rw [hz]; exact (List.getElem?_eq_some_iff.mp he).1
    exact ⟨its[j], by simp [hj], hf j _ e (by simp [hj]) he⟩
  match i, hi with
  | 0, _ =>
    refine ⟨43, _, rfl, tup 43 _ _ rfl rfl rfl, rfl, seven rfl fun j v e hv he => ?_⟩
    match j, hv, he with
    | 0, hv, he => cases hv; cases he; exact ⟨_, _, _, rfl, tup 36 _ _ rfl rfl rfl⟩
    | 1, hv, he => cases hv; cases he; exact ⟨_, _, _, rfl, tup 37 _ _ rfl rfl rfl⟩
    | 2, hv, he => cases hv; cases he; exact ⟨_, _, _, rfl, tup 38 _ _ rfl rfl rfl⟩
    | 3, hv, he => cases hv; cases he; exact ⟨_, _, _, rfl, tup 39 _ _ rfl rfl rfl⟩
    | 4, hv, he => cases hv; cases he; exact ⟨_, _, _, rfl, tup 40 _ _ rfl rfl rfl⟩
    | 5, hv, he => cases hv; cases he; exact ⟨_, _, _, rfl, tup 41 _ _ rfl rfl rfl⟩
    | 6, hv, he => cases hv; cases he; exact ⟨_, _, _, rfl, tup 42 _ _ rfl rfl rfl⟩
    | n + 7, hv, he => cases he
  | 1, _ =>
    refine ⟨45, _, rfl, tup 45 _ _ rfl rfl rfl, rfl, seven rfl fun j v e hv he => ?_⟩
    match j, hv, he with
    | 0, hv, he => cases hv; cases he; exact ⟨_, _, _, rfl, tup 44 _ _ rfl rfl rfl⟩
    | n + 1, hv, he => cases he
  | 2, _ =>
    refine ⟨47, _, rfl, tup 47 _ _ rfl rfl rfl, rfl, seven rfl fun j v e hv he => ?_⟩
    match j, hv, he with
    | 0, hv, he => cases hv; cases he; exact ⟨_, _, _, rfl, tup 46 _ _ rfl rfl rfl⟩
    | n + 1, hv, he => cases he
  | 3, _ =>
    refine ⟨51, _, rfl, tup 51 _ _ rfl rfl rfl, rfl, seven rfl fun j v e hv he => ?_⟩
    match j, hv, he with
    | 0, hv, he => cases hv; cases he; exact ⟨_, _, _, rfl, tup 48 _ _ rfl rfl rfl⟩
    | 1, hv, he => cases hv; cases he; exact ⟨_, _, _, rfl, tup 49 _ _ rfl rfl rfl⟩
    | 2, hv, he => cases hv; cases he; exact ⟨_, _, _, rfl, tup 50 _ _ rfl rfl rfl⟩
    | n + 3, hv, he => cases he
  | 4, _ =>
    refine ⟨53, _, rfl, tup 53 _ _ rfl rfl rfl, rfl, seven rfl fun j v e hv he => ?_⟩
    match j, hv, he with
    | 0, hv, he => cases hv; cases he; exact ⟨_, _, _, rfl, tup 52 _ _ rfl rfl rfl⟩
    | n + 1, hv, he => cases he
  | 5, _ =>
    refine ⟨55, _, rfl, tup 55 _ _ rfl rfl rfl, rfl, seven rfl fun j v e hv he => ?_⟩
    match j, hv, he with
    | 0, hv, he => cases hv; cases he; exact ⟨_, _, _, rfl, tup 54 _ _ rfl rfl rfl⟩
    | n + 1, hv, he => cases he
  | 6, _ =>
    refine ⟨59, _, rfl, tup 59 _ _ rfl rfl rfl, rfl, seven rfl fun j v e hv he => ?_⟩
    match j, hv, he with
    | 0, hv, he => cases hv; cases he; exact ⟨_, _, _, rfl, tup 56 _ _ rfl rfl rfl⟩
    | 1, hv, he => cases hv; cases he; exact ⟨_, _, _, rfl, tup 57 _ _ rfl rfl rfl⟩
    | 2, hv, he => cases hv; cases he; exact ⟨_, _, _, rfl, tup 58 _ _ rfl rfl rfl⟩
    | n + 3, hv, he => cases he
  | 7, _ =>
    refine ⟨61, _, rfl, tup 61 _ _ rfl rfl rfl, rfl, seven rfl fun j v e hv he => ?_⟩
    match j, hv, he with
    | 0, hv, he => cases hv; cases he; exact ⟨_, _, _, rfl, tup 60 _ _ rfl rfl rfl⟩
    | n + 1, hv, he => cases he
  | 8, _ =>
    refine ⟨63, _, rfl, tup 63 _ _ rfl rfl rfl, rfl, seven rfl fun j v e hv he => ?_⟩
    match j, hv, he with
    | 0, hv, he => cases hv; cases he; exact ⟨_, _, _, rfl, tup 62 _ _ rfl rfl rfl⟩
    | n + 1, hv, he => cases he
  | 9, _ =>
    refine ⟨67, _, rfl, tup 67 _ _ rfl rfl rfl, rfl, seven rfl fun j v e hv he => ?_⟩
    match j, hv, he with
    | 0, hv, he => cases hv; cases he; exact ⟨_, _, _, rfl, tup 64 _ _ rfl rfl rfl⟩
    | 1, hv, he => cases hv; cases he; exact ⟨_, _, _, rfl, tup 65 _ _ rfl rfl rfl⟩
    | 2, hv, he => cases hv; cases he; exact ⟨_, _, _, rfl, tup 66 _ _ rfl rfl rfl⟩
    | n + 3, hv, he => cases he
  | n + 10, h => omega
end
end
/-! FMb -/
theorem fresh_FMb : True ∧ True := by
  w_top off
  first
    | (walk1; done)
    | exact ⟨trivial, trivial⟩
section
set_option maxRecDepth 100000
set_option maxHeartbeats 8000000
section
variable {w : World} {A : Around} {E : Value → Shared → Prop} {s : Shared} {mean : ExcName → Option Value} {mg mb : Str → Option Value}

local macro_rules | `(tactic| walk_at "eval Name") => `(tactic| (k_here; k_dflt (refine' ld ?k1 ?k2 ?_; (case k1 => k_asm); (case k2 => (first | exact rfl | with_unfolding_all assumption)); k_whole)))
local macro_rules | `(tactic| walk_at "call ref") => `(tactic| (k_here; (with_reducible show wpAny _ _ (call (Value.ref 35) [Value.int _ _]) _ _ _); (refine' ifmt_A (Frag.In.keeps (by k_asm) (Fr.keep (by k_asm))) (Top.keeps (by k_asm) (Fr.keep (by k_asm))) ?r ?_; (case r => (simp only [Around.deeper]; omega)); intro h' tk' t' k'; (have F' := fr_kp (by k_asm) k'); (have N' := news_kp (by k_asm) k'); (try k_sweep))))

def enumO (it : Addr) (i : Int) (old : Value) : Obj := { cls := .type "enumerate", data := .fields #[.none, .bool false, .ref it, rawInt i, .none, old] }
def FmJ (s : Shared) (e it P : Addr) (n : Nat) (t : Tok) (i : Nat) (s' : Shared) : Prop :=
  ∃ h tk m old o2 vs nP, s' = { s with heap := h, toks := tk } ∧ Fr s.heap s.heap.objs.size h m ∧
      News s.heap s.heap.objs.size h [(e, enumO it i old), (it, o2), (P, W.listOf vs.toArray nP)] ∧
      o2.cls = .type "tuple_iterator" ∧ o2.data = .fields #[.ref 68, .int i 0] ∧ StrsAre vs (((codes n).take i).map one) ∧ vs.length = i ∧
      m (Str.ofString "perm") = some (.ref P) ∧ m (Str.ofString "mode") = some (.int (n : Int) t)
def FmJ2 (s : Shared) (I2 e it P a : Addr) (n : Nat) (t : Tok) (i : Nat) (tx : Tok) (old : Value) (o6 : Obj) (vs : List Value) (nP : Nat) (j : Nat) (s' : Shared) : Prop :=
  ∃ h tk m o3, s' = { s with heap := h, toks := tk } ∧ Fr s.heap s.heap.objs.size h m ∧
        News s.heap s.heap.objs.size h [(I2, o3), (e, enumO it ((i : Int) + 1) old), (it, o6), (P, W.listOf vs.toArray nP)] ∧
        o3.cls = .type "tuple_iterator" ∧ o3.data = .fields #[.ref a, .int j 0] ∧ pickFrom i n (es i) = pickFrom i n ((es i).drop j) ∧
        m (Str.ofString "perm") = some (.ref P) ∧ m (Str.ofString "mode") = some (.int (n : Int) t) ∧ m (Str.ofString "index") = some (.int (i : Int) tx)
theorem test_zero {i n b : Nat} (hi : (i : Int) = 0) : test i n b = decide (Builtin.bitAnd (n : Int) 61440 = (b : Int)) := by
  obtain rfl : i = 0 := by omega
  have e : (61440 : Int) = ((61440 : Nat) : Int) := rfl
  rw [e, bitAnd_nat]
  simp only [test, if_true, Int.natCast_inj]
  exact (Bool.beq_eq_decide_eq _ _)
theorem test_pos {i n b : Nat} (hi : (i : Int) ≠ 0) : test i n b = decide (Builtin.bitAnd (n : Int) (b : Int) = (b : Int)) := by
  rw [bitAnd_nat]
  simp only [test, if_neg (show ¬ i = 0 by omega), Int.natCast_inj]
  exact (Bool.beq_eq_decide_eq _ _)
theorem pick_hit {i n : Nat} {en : Nat × Nat} {r : List (Nat × Nat)} (h : test i n en.1 = true) : pickFrom i n (en :: r) = en.2 := by simp [pickFrom, h]
theorem pick_miss {i n : Nat} {en : Nat × Nat} {r : List (Nat × Nat)} (h : test i n en.1 = false) : pickFrom i n (en :: r) = pickFrom i n r := by simp [pickFrom, h]
theorem strs_snoc {vs : List Value} {ys : List Str} (h : StrsAre vs ys) (y : Str) (t : Tok) : StrsAre (vs ++ [.str y t]) (ys ++ [y]) := by
  induction h with
  | nil => exact .cons y t .nil
  | cons z u _ ih => exact .cons z u ih
theorem FmJ.next {e it P : Addr} {n : Nat} {t : Tok} {i : Nat} {h : Heap} {tk : Nat} {m : Str → Option Value} {old : Value} {o6 : Obj} {vs : List Value} {nP c : Nat} {tc : Tok} {news : List (Addr × Obj)} (hi : i < 10)
    (F : Fr s.heap s.heap.objs.size h m) (N : News s.heap s.heap.objs.size h news) (hs : ∀ p ∈ [(e, enumO it ((i : Int) + 1) old), (it, o6), (P, W.listOf (vs.toArray.push (.str (one c) tc)) nP)], p ∈ news)
    (hc6 : o6.cls = .type "tuple_iterator") (hd6 : o6.data = .fields #[.ref 68, .int ((i + 1 : Nat) : Int) 0]) (hvs : StrsAre vs (((codes n).take i).map one)) (hlen : vs.length = i) (hc : c = codeAt n i)
    (hp : m (Str.ofString "perm") = some (.ref P)) (hm : m (Str.ofString "mode") = some (.int (n : Int) t)) : FmJ s e it P n t (i + 1) { s with heap := h, toks := tk } := by
  refine ⟨h, tk, m, old, o6, vs ++ [.str (one c) tc], nP, rfl, F, ?_, hc6, hd6, ?_, by simp [hlen], hp, hm⟩
  · rw [← List.push_toArray]
    exact news_sub N (by simpa using hs)
  · rw [codes_take hi, List.map_append, hc]
    exact strs_snoc hvs _ _

theorem filemode_A {n : Nat} {t : Tok} {Q : Value → Shared → Prop} (X : (hd.heap_39 w.params).In s.heap) (T : Top hd.view_39 (looseW hd.view_39 [Str.ofString "_filemode_table"]) mean mg mb s.heap)
    (hdp : A.depth + 2 < recursionLimit) (hh : A.handled = none) (hn : n < 65536)
    (hQ : ∀ h' tk t', Kp s.heap h' → Q (.str (Txt.join (Str.ofString "") ((codes n).map one)) t') { s with heap := h', toks := tk }) :
    wpAny (model PySem.Challenge.rw_pg0089_01.row.prog w) A (call (.ref 75) [.int (n : Int) t]) Q E s := by
  revert X; k_fill; intro X
  refine' callA (binds := [(Str.ofString "mode", .int (n : Int) t)]) X T (Nat.lt_of_le_of_lt (Nat.le_add_right _ _) hdp) ?ho ?hcd ?hb ?hl ?hc ?c1 ?c2 ?c3 ?_
  case ho => k_dflt k_is
  case hcd => k_dflt k_is
  case hb => rfl
  case hl => exact locs rfl
  case hc => decide
  case c1 => rfl
  case c2 => rfl
  case c3 => rfl
  intro h₁ F N X' T'
  k_steps
  rename_i tk1 P h2 lt1 h3 F3 N3
  refine forA ?_
  k_steps
  have htab : h3.IsTuple 68 tabItems := ⟨_, F3.keep _ _ (X' 68 _ rfl), rfl, _, rfl⟩
  have hTL : 68 < s.heap.objs.size := Heap.lt_size (X' 68 _ rfl)
  have hL3 := fr_lt F3
  have hP3 := news_lt N3 _ (List.mem_cons_self ..)
  refine call_enum_tuple (s := ⟨h3, _, _, _, _⟩) htab fun h4 he4 hi4 hz4 hk4 => ?_
  dsimp only at he4 hi4 hz4 hk4 hP3 ⊢
  have F4 := fr_kp F3 hk4
  have N4 := news_kp N3 hk4
  have hfe := fresh_none F3 (Nat.le_succ h3.objs.size)
  have hfi := fresh_none F3 (Nat.le_refl h3.objs.size)
  obtain ⟨o4, ho4, hc4, hd4⟩ := hi4
  k_steps
  refine wpAny_pyIter_enum he4 ?_
  generalize hE : h3.objs.size + 1 = e at *
  generalize hI : h3.objs.size = it at *
  have hfe' : s.heap.get? e = none := by rw [← hE]; exact hfe
  clear F3 N3
  refine forA_inv 10 (FmJ s e it P n t) ?_ ?_ 10 0 _ rfl (Nat.zero_le _) ?_
  · rintro i s' hi ⟨h, tk, m, old, o2, vs, nP, rfl, F5, N5, hc2, hd2, hvs, hlen, hp, hm⟩
    have hit5 : h.IsTupleIter it 68 i ∧ h.IsTuple 68 tabItems := ⟨⟨o2, N5.get (.tail _ (.head _)), hc2, hd2⟩, ⟨_, F5.keep _ _ (X' 68 _ rfl), rfl, _, rfl⟩⟩
    have hTi : 68 ≠ it := by omega
    have hei : e ≠ it := by omega
    have hef : e ∉ [it, 68] := nin2 (by omega) (by omega)
    refine enum_turn (fp := [it, 68]) (n := 10) (P := fun i v => tabItems[i]? = some v) (St := fun i h => h.IsTupleIter it 68 i ∧ h.IsTuple 68 tabItems) hh (Draws_tuple (by exact hh) it 68 hTi tabItems) (N5.get (.head _)) hit5 hi hei hef fun x tx h6 tk6 hx he6 hi6 hk6 => ?_
    obtain ⟨old', he6⟩ := he6
    obtain ⟨⟨o6, ho6, hc6, hd6⟩, _⟩ := hi6
    have F6 := fr_but F5 hk6 (nin2 (by omega) (by omega)) (all2 hfe' hfi)
    have NP := news_but (news_tl (news_tl N5)) hk6 (by
      intro p hp
      rcases List.mem_cons.mp hp with rfl | hp
      · exact nin2 (by omega) (by omega)
      · cases hp)
    have N6 : News s.heap s.heap.objs.size h6 [(e, enumO it ((i : Int) + 1) old'), (it, o6), (P, W.listOf vs.toArray nP)] := news_cons he6 (by omega) hfe' (news_cons ho6 (by omega) hfi NP)
    obtain ⟨a, its, hai, hta, hsz, hent⟩ := tab_facts X' i hi
    obtain rfl : Value.ref a = x := by
      have hx' : tabItems[i]? = some x := hx
      rw [hai] at hx'; exact Option.some.inj hx'
    clear F4 N4 F5 N5 NP
    k_steps
    rename_i h7 F7 N7
    refine forA ?_
    k_steps
    have hta7 : h7.IsTuple a its := hta.at fun o q => F7.keep _ _ q
    have hL7 := fr_lt F7
    have hz7 := news_lt N7
    have heB : e < h7.objs.size := hz7 _ (.head _)
    have hiB : it < h7.objs.size := hz7 _ (.tail _ (.head _))
    have hPB : @LT.lt Nat _ P h7.objs.size := hz7 _ (.tail _ (.tail _ (.head _)))
    have hf7 := fresh_none F7 (Nat.le_refl _)
    refine wpAny_pyIter_tuple (s := ⟨h7, _, _, _, _⟩) hta7 ?_
    clear hz7
    have N8 := News.push F7 N7 { cls := .type "tuple_iterator", data := .fields #[.ref a, .int 0 0] } rfl
    have F8 := F7.push { cls := .type "tuple_iterator", data := .fields #[.ref a, .int 0 0] }
    dsimp only at N8 ⊢
    generalize h7.push { cls := .type "tuple_iterator", data := .fields #[.ref a, .int 0 0] } = h8 at N8 F8 ⊢
    clear N7 F7
    generalize h7.objs.size = I2 at *
    refine forA_inv (es i).length (FmJ2 s I2 e it P a n t i tx old' o6 vs nP) ?_ ?_ _ 0 _ rfl (Nat.zero_le _) ?_
    · rintro j s' hj ⟨h, tk, m, o3, rfl, F9, N9, hc3, hd3, hpk, hp, hm, hix⟩
      have hge := List.getElem?_eq_getElem hj
      generalize hen : (es i)[j] = en at hge
      obtain ⟨v, hv, b, tb, tc, rfl, htb⟩ := hent j en hge
      have hdr : (es i).drop j = en :: (es i).drop (j + 1) := by rw [← hen]; exact List.drop_eq_getElem_cons hj
      rw [hdr] at hpk
      have hI9 : h.IsTupleIter I2 a j := ⟨o3, N9.get (.head _), hc3, hd3⟩
      have ha9 : h.IsTuple a its := hta.at fun o q => F9.keep _ _ q
      have hb9 : h.IsTuple b _ := htb.at fun o q => F9.keep _ _ q
      refine wpAny_pyNext_tuple_item (s := ⟨h, _, _, _, _⟩) hI9 ha9 hv fun h10 hI10 hs10 => ⟨_, rfl, ?_⟩
      refine go_tupleIter (s := ⟨h10, _, _, _, _⟩) hI10 ?_
      replace hs10 : Heap.SameBut I2 h h10 := hs10
      have hbI : b ≠ I2 := by
        rintro rfl
        obtain ⟨ob, hob, _⟩ := htb
        rw [hf7] at hob; cases hob
      refine assign_pair (s := ⟨h10, _, _, _, _⟩) hh (hb9.extBut hs10.extBut hbI) fun h11 hk11 => ?_
      obtain ⟨o10, ho10, hc10, hd10⟩ := hI10
      have F11 := fr_kp (fr_but F9 (same_but hs10) (nin1 (by omega)) (all1 hf7)) hk11
      have N11 := news_cons (hk11 _ _ ho10) (show @Ne Nat I2 s.heap.objs.size by omega) hf7 (news_kp (news_but (news_tl N9) (same_but hs10) (by
        intro p hp
        rcases List.mem_cons.mp hp with rfl | hp
        · exact nin1 (by omega)
        rcases List.mem_cons.mp hp with rfl | hp
        · exact nin1 (by omega)
        rcases List.mem_cons.mp hp with rfl | hp
        · exact nin1 (by omega)
        · cases hp)) hk11)
      clear F9 N9 F8 N8
      dsimp only
      k_steps
      · rename_i hi0 _ _ _ _ _ hb h' F' N'
        dsimp only [Ret]
        refine wpAny_execs_nil ?_
        refine FmJ.next hi F' N' (List.subset_cons_self _ _) hc6 hd6 hvs hlen ?_ (by with_unfolding_all exact hp) (by with_unfolding_all exact hm)
        rw [← pick_eq hn hi, hpk, pick_hit (by rw [test_zero hi0]; exact decide_eq_true hb)]
      · rename_i hi0 _ _ _ _ F' N' hb
        exact ⟨_, _, _, o10, rfl, F', N', hc10, hd10, hpk.trans (pick_miss (by rw [test_zero hi0]; exact decide_eq_false hb)), by with_unfolding_all exact hp, by with_unfolding_all exact hm, by with_unfolding_all exact hix⟩
      · rename_i hi0 _ hb _ h' F' N'
        dsimp only [Ret]
        refine wpAny_execs_nil ?_
        refine FmJ.next hi F' N' (List.subset_cons_self _ _) hc6 hd6 hvs hlen ?_ (by with_unfolding_all exact hp) (by with_unfolding_all exact hm)
        rw [← pick_eq hn hi, hpk, pick_hit (by rw [test_pos hi0]; exact decide_eq_true hb)]
      · rename_i F' N' _ hi0 _ hb
        exact ⟨_, _, _, o10, rfl, F', N', hc10, hd10, hpk.trans (pick_miss (by rw [test_pos hi0]; exact decide_eq_false hb)), by with_unfolding_all exact hp, by with_unfolding_all exact hm, by with_unfolding_all exact hix⟩
    · rintro s' ⟨h, tk, m, o3, rfl, F9, N9, hc3, hd3, hpk, hp, hm, hix⟩
      rw [List.drop_length] at hpk
      have hI9 : h.IsTupleIter I2 a (es i).length := ⟨o3, N9.get (.head _), hc3, hd3⟩
      have ha9 : h.IsTuple a its := hta.at fun o q => F9.keep _ _ q
      refine wpAny_pyNext_tuple_end (s := ⟨h, _, _, _, _⟩) hh hI9 ha9 (by rw [← hsz]; simp) fun h10 hx10 => ⟨rfl, ?_⟩
      have F10 := fr_but F9 (ext_but hx10) (nin1 (by omega)) (all1 hf7)
      have N10 := news_but (news_tl N9) (ext_but hx10) (by
        intro p hp
        rcases List.mem_cons.mp hp with rfl | hp
        · exact nin1 (by omega)
        rcases List.mem_cons.mp hp with rfl | hp
        · exact nin1 (by omega)
        rcases List.mem_cons.mp hp with rfl | hp
        · exact nin1 (by omega)
        · cases hp)
      clear F9 N9 F8 N8
      dsimp only
      k_steps
      · rename_i hi0 _ h' F' N'
        dsimp only [Ret]
        refine wpAny_execs_nil ?_
        rw [show Str.ofString "?" = one 63 from by decide +kernel] at N'
        refine FmJ.next hi F' N' (fun _ q => q) hc6 hd6 hvs hlen ?_ hp hm
        rw [← pick_eq hn hi, hpk]
        simp only [pickFrom, if_pos (show i = 0 by omega)]
      · rename_i hi0 _ h' F' N'
        dsimp only [Ret]
        refine wpAny_execs_nil ?_
        rw [show Str.ofString "-" = one 45 from by decide +kernel] at N'
        refine FmJ.next hi F' N' (fun _ q => q) hc6 hd6 hvs hlen ?_ hp hm
        rw [← pick_eq hn hi, hpk]
        simp only [pickFrom, if_neg (show ¬ i = 0 by omega)]
    · exact ⟨_, _, _, _, rfl, F8, N8, rfl, rfl, rfl, by with_unfolding_all exact hp, by with_unfolding_all exact hm, by with_unfolding_all rfl⟩
  · rintro s' ⟨h, tk, m, old, o2, vs, nP, rfl, F5, N5, hc2, hd2, hvs, hlen, hp, hm⟩
    have hit5 : h.IsTupleIter it 68 10 ∧ h.IsTuple 68 tabItems := ⟨⟨o2, N5.get (.tail _ (.head _)), hc2, hd2⟩, ⟨_, F5.keep _ _ (X' 68 _ rfl), rfl, _, rfl⟩⟩
    have hTi : 68 ≠ it := by omega
    refine enum_done (fp := [it, 68]) (n := 10) (P := fun i v => tabItems[i]? = some v) (St := fun i h => h.IsTupleIter it 68 i ∧ h.IsTuple 68 tabItems) (Draws_tuple (by exact hh) it 68 hTi tabItems) (N5.get (.head _)) hit5 fun h6 hk6 => ?_
    have F6 := fr_but F5 hk6 (nin2 (by omega) (by omega)) (all2 hfe' hfi)
    have NP := news_but (news_tl (news_tl N5)) hk6 (by
      intro p hp
      rcases List.mem_cons.mp hp with rfl | hp
      · exact nin2 (by omega) (by omega)
      · cases hp)
    clear F4 N4 F5 N5
    refine wpAny_execs_nil ?_
    dsimp only [Ret]
    k_steps
    have hlist : h6.IsList P vs.toArray := ⟨_, NP.get (.head _), rfl, _, rfl⟩
    rw [List.take_of_length_le (by rw [codes_length]; exact Nat.le_refl _)] at hvs
    refine join_listW (s := ⟨h6, _, _, _, _⟩) hlist (by simpa using hvs) (by decide) ?_ fun t' k => ?_
    · have e : ((codes n).map one).map (·.length) = (codes n).map fun _ => 1 := by rw [List.map_map]; rfl
      rw [e, List.map_const', List.sum_replicate_nat, codes_length, List.length_map, codes_length]
      decide
    k_steps
    exact hQ _ _ _ F6.keep
  · refine ⟨_, _, _, _, o4, [], 0, rfl, F4, news_cons he4 (by omega) hfe' (news_cons ho4 (by omega) hfi N4), hc4, hd4, .nil, rfl, by with_unfolding_all rfl, by with_unfolding_all rfl⟩
end
end
/-! Loops3 -/
section
set_option maxRecDepth 100000
set_option maxHeartbeats 4000000
/-- a mark at which the walker halts -/
def Stop (P : Prop) : Prop := P
def rangeO (x left step : Int) : Obj := { cls := .type "range_iterator", dict := none, data := .fields #[rawInt x, rawInt left, rawInt step], slots := #[] }
def listItO (l : Addr) (i : Nat) (o : Obj) : Prop := o.cls = .type "list_iterator" ∧ o.data = .fields #[.ref l, .int i 0]
def Off (I : Addr) (rest : List (Addr × Obj)) : Prop := ∀ b ∈ rest.map Prod.fst, @Ne Nat b I
theorem Off.nin {I : Addr} {rest : List (Addr × Obj)} (h : Off I rest) : ∀ p ∈ rest, p.1 ∉ [I] := fun p hp => nin1 (h _ (List.mem_map.mpr ⟨p, hp, rfl⟩))
section
variable {prog : Program} {w : World} {A : Around} {E : Value → Shared → Prop} {env : Env} {R : Result → Shared → Prop} {s : Shared}
theorem execs_stop {M : Model} {st rest} {Q : Flow → Shared → Prop}
    (h : wpAny M A (exec st env) (fun f s' => match f with | .next => Stop (wpAny M A (execs rest env) Q E s') | f => Q f s') E s) :
    wpAny M A (execs (st :: rest) env) Q E s := wpAny_execs_cons h
theorem nextC_stop {M : Model} {st rest} {Q : Flow → Shared → Prop}
    (h : wpAny M A (exec st env) (fun f s' => match f with | .next => Stop (wpC M A (execs rest env) Q E s') | f => Q f s') E s) :
    wpC M A (execs (st :: rest) env) Q E s := wpC_next h
theorem wpAny_stop {α : Type} {M : Model} {t : Sem α} {Q : α → Shared → Prop} (h : wpAny M A t (fun a s' => Stop (Q a s')) E s) : wpAny M A t Q E s := h

theorem range_enter {h₀ : Heap} {L r : Addr} {m : Str → Option Value} {rest : List (Addr × Obj)} {a b c : Int} {t u v : Tok} {Q : Value → Shared → Prop} (hr : IsRange s.heap r a b c t u v) (hs : Builtin.Range.small a b c = true) (n : Int) (hn : Builtin.Range.rangeSize a b c = n)
    (F : Fr h₀ L s.heap m) (N : News h₀ L s.heap rest)
    (h : ∀ I h', Fr h₀ L h' m → News h₀ L h' ((I, rangeO a n c) :: rest) → Off I rest → Q (.ref I) { s with heap := h' }) :
    wpAny (model prog w) A (pyIter (.ref r)) Q E s := by
  refine wpAny_pyIter_range hr hs (h _ _ (F.push _) (by rw [hn]; exact News.push F N _ rfl) fun b hb => ?_)
  obtain ⟨p, hp, rfl⟩ := List.mem_map.mp hb
  exact Nat.ne_of_lt (news_lt N p hp)
theorem list_enter {h₀ : Heap} {L l : Addr} {m : Str → Option Value} {rest : List (Addr × Obj)} {items : Array Value} {Q : Value → Shared → Prop} (hl : s.heap.IsList l items)
    (F : Fr h₀ L s.heap m) (N : News h₀ L s.heap rest)
    (h : ∀ I h' o, Fr h₀ L h' m → News h₀ L h' ((I, o) :: rest) → listItO l 0 o → Off I rest → h'.IsList l items → @Ne Nat l I → Q (.ref I) { s with heap := h' }) :
    wpAny (model prog w) A (pyIter (.ref l)) Q E s := by
  obtain ⟨ol, hol, hx⟩ := hl
  refine wpAny_pyIter_list ⟨ol, hol, hx⟩ (h _ _ _ (F.push _) (News.push F N _ rfl) ⟨rfl, rfl⟩ (fun b hb => ?_) ⟨ol, Heap.get?_push_of_some _ hol, hx⟩ (Nat.ne_of_lt (Heap.lt_size hol)))
  obtain ⟨p, hp, rfl⟩ := List.mem_map.mp hb
  exact Nat.ne_of_lt (news_lt N p hp)
theorem range_turn {h₀ : Heap} {L I : Addr} {m : Str → Option Value} {rest : List (Addr × Obj)} {a left step : Int} {x : Str} {px : Pos} {Q : Unit → Shared → Prop}
    (F : Fr h₀ L s.heap m) (N : News h₀ L s.heap ((I, rangeO a left step) :: rest)) (hne : Off I rest) (hleft : 0 < left)
    (h : ∀ h', Fr h₀ L h' m → News h₀ L h' ((I, rangeO (a + step) (left - 1) step) :: rest) → wpAny (model prog w) A (assign (.Name x px) env (.int a s.toks)) Q NoE { s with heap := h', toks := s.toks + 1 }) :
    wpAny (model prog w) A (pyNext (.ref I)) (fun r s₁ => ∃ v, r = some v ∧ wpAny (model prog w) A (letOwnedTupleGo (.Name x px) (.ref I) v) (fun _ s₁' =>
      wpAny (model prog w) A (assign (.Name x px) env v) Q NoE s₁') NoE s₁) NoE s := by
  obtain ⟨hI, hIL, hI0⟩ := N _ (.head _)
  refine wpAny_pyNext_range_item hI hleft fun h' hi' hs' => ⟨_, rfl, go_name ?_⟩
  exact h h' (fr_but F (same_but hs') (nin1 (Ne.symm hIL)) (all1 hI0)) (news_cons hi' hIL hI0 (news_but (news_tl N) (same_but hs') hne.nin))
theorem range_done {h₀ : Heap} {L I : Addr} {m : Str → Option Value} {rest : List (Addr × Obj)} {a left step : Int} {Q : Shared → Prop} (hh : A.handled = none)
    (F : Fr h₀ L s.heap m) (N : News h₀ L s.heap ((I, rangeO a left step) :: rest)) (hne : Off I rest) (hleft : left ≤ 0)
    (h : ∀ h', Fr h₀ L h' m → News h₀ L h' rest → Q { s with heap := h' }) :
    wpAny (model prog w) A (pyNext (.ref I)) (fun r s₁ => r = none ∧ Q s₁) NoE s := by
  obtain ⟨hI, hIL, hI0⟩ := N _ (.head _)
  refine wpAny_pyNext_range_end hh hI hleft fun h' hx => ⟨rfl, ?_⟩
  exact h h' (fr_but F (ext_but hx) (nin1 (Ne.symm hIL)) (all1 hI0)) (news_but (news_tl N) (ext_but hx) hne.nin)
theorem list_turn {h₀ : Heap} {L I l : Addr} {m : Str → Option Value} {rest : List (Addr × Obj)} {o : Obj} {i : Nat} {items : Array Value} {v : Value} {x : Str} {px : Pos} {Q : Unit → Shared → Prop}
    (F : Fr h₀ L s.heap m) (N : News h₀ L s.heap ((I, o) :: rest)) (ho : listItO l i o) (hl : s.heap.IsList l items) (hv : items[i]? = some v) (hne : Off I rest)
    (h : ∀ h' o', Fr h₀ L h' m → News h₀ L h' ((I, o') :: rest) → listItO l (i + 1) o' → wpAny (model prog w) A (assign (.Name x px) env v) Q NoE { s with heap := h' }) :
    wpAny (model prog w) A (pyNext (.ref I)) (fun r s₁ => ∃ v, r = some v ∧ wpAny (model prog w) A (letOwnedTupleGo (.Name x px) (.ref I) v) (fun _ s₁' =>
      wpAny (model prog w) A (assign (.Name x px) env v) Q NoE s₁') NoE s₁) NoE s := by
  obtain ⟨hI, hIL, hI0⟩ := N _ (.head _)
  refine wpAny_pyNext_list_item ⟨o, hI, ho.1, ho.2⟩ hl hv fun h' hi' hs' => ⟨_, rfl, go_name ?_⟩
  obtain ⟨o', ho', hc', hd'⟩ := hi'
  exact h h' o' (fr_but F (same_but hs') (nin1 (Ne.symm hIL)) (all1 hI0)) (news_cons ho' hIL hI0 (news_but (news_tl N) (same_but hs') hne.nin)) ⟨hc', hd'⟩
theorem list_done {h₀ : Heap} {L I l : Addr} {m : Str → Option Value} {rest : List (Addr × Obj)} {o : Obj} {i : Nat} {items : Array Value} {Q : Shared → Prop} (hh : A.handled = none)
    (F : Fr h₀ L s.heap m) (N : News h₀ L s.heap ((I, o) :: rest)) (ho : listItO l i o) (hl : s.heap.IsList l items) (hi : items[i]? = none) (hne : Off I rest)
    (h : ∀ h', Fr h₀ L h' m → News h₀ L h' rest → Q { s with heap := h' }) :
    wpAny (model prog w) A (pyNext (.ref I)) (fun r s₁ => r = none ∧ Q s₁) NoE s := by
  obtain ⟨hI, hIL, hI0⟩ := N _ (.head _)
  refine wpAny_pyNext_list_end hh ⟨o, hI, ho.1, ho.2⟩ hl hi fun h' hx => ⟨rfl, ?_⟩
  exact h h' (fr_but F (ext_but hx) (nin1 (Ne.symm hIL)) (all1 hI0)) (news_but (news_tl N) (ext_but hx) hne.nin)
end
end
/-! Arith -/
section
set_option maxRecDepth 100000
set_option maxHeartbeats 4000000
section
variable {prog : Program} {w : World} {A : Around} {E : Value → Shared → Prop} {s : Shared} {Q : Value → Shared → Prop} {a n c : Int} {t u : Tok}
theorem rshift_c (hn : 0 ≤ n) (hc : c = a.fdiv (2 ^ n.toNat)) (h : Q (.int c s.toks) { s with toks := s.toks + 1 }) : wpAny (model prog w) A (binaryOp .RShift (.int a t) (.int n u)) Q E s := rshift_int hn (hc ▸ h)
theorem floordiv_c {b : Int} (hb : b ≠ 0) (hc : c = a.fdiv b) (hp : Builtin.divisionGoesByPylong a b = false) (h : Q (.int c s.toks) { s with toks := s.toks + 1 }) : wpAny (model prog w) A (binaryOp .FloorDiv (.int a t) (.int b u)) Q E s :=
  floordiv_int hb (hc ▸ h) (Or.inl hp)
theorem mod_c {b : Int} (hb : b ≠ 0) (hc : c = a.fmod b) (h : Q (.int c s.toks) { s with toks := s.toks + 1 }) : wpAny (model prog w) A (binaryOp .Mod (.int a t) (.int b u)) Q E s := mod_int' hb (hc ▸ h)
end
end
/-! Mac -/
local macro_rules | `(tactic| walk_at "eval Name") => `(tactic| (k_here; k_dflt (refine' ld ?k1 ?k2 ?_; (case k1 => k_asm); (case k2 => (first | exact rfl | with_unfolding_all assumption)); k_whole)))
local macro_rules | `(tactic| walk_at "loadName") => `(tactic| (k_here; k_dflt (refine' ldn ?k1 ?k2 ?_; (case k1 => k_asm); (case k2 => (first | exact rfl | with_unfolding_all assumption)); k_whole)))
local macro_rules | `(tactic| walk_at "binaryOp RShift int int") => `(tactic| (k_here; (refine' rshift_c ?ra ?rb ?_; (case ra => decide); (case rb => (simp only [Int.reduceFDiv, Int.reduceToNat, Int.reducePow]; rfl)))))
local macro_rules | `(tactic| walk_at "binaryOp FloorDiv int int") => `(tactic| (k_here; (refine' floordiv_c ?ra ?rb ?rc ?_; (case ra => decide); (case rb => (simp only [Int.reduceFDiv]; rfl)); (case rc => exact PyProof.noPylong_small (by decide)))))
local macro_rules | `(tactic| walk_at "binaryOp Mod int int") => `(tactic| (k_here; (refine' mod_c ?ra ?rb ?_; (case ra => decide); (case rb => (simp only [Int.reduceFMod]; rfl)))))
/-! CallC -/
section
set_option maxRecDepth 100000
set_option maxHeartbeats 4000000
section
variable {M : Model} {A : Around} {E : Value → Shared → Prop} {s : Shared} {env : Env}
theorem wpC_keep {α : Type} {vs : List Value} {t : Sem α} {Q : α → Shared → Prop} (h : wpC M A t Q E s) : wpC M A (t.keep vs) Q E s := fun Γ p hΓ hc => by
  rw [Sem.wp_keep]; exact h Γ p hΓ hc
theorem splC_nil {Q : List Value → Shared → Prop} (h : Q [] s) : wpC M A (spliced []) Q E s := wpC_pure h
theorem splC_cons {x : Sem Value} {rest : List (Bool × Sem Value)} {Q : List Value → Shared → Prop}
    (h : wpC M A x (fun v s₁ => wpC M A (spliced rest) (fun vs s₂ => Q (v :: vs) s₂) E s₁) E s) : wpC M A (spliced ((false, x) :: rest)) Q E s := by
  rw [spliced]
  refine wpC_bind (wpC_mono h (fun v s₁ h₁ => ?_) fun _ _ x => x)
  simp only [Bool.false_eq_true, if_false]
  exact wpC_bind (wpC_pure (wpC_bind (wpC_holding (wpC_mono h₁ (fun vs s₂ h₂ => wpC_pure h₂) fun _ _ x => x))))
theorem argsC {f : Value} {x : Sem Value} {rest : List (Bool × Sem Value)} {Q : Args → Shared → Prop}
    (h : wpC M A (spliced ((false, x) :: rest)) (fun vs s' => Q ⟨vs, []⟩ s') E s) : wpC M A (evalArgs f true ((false, x) :: rest) []) Q E s := by
  unfold evalArgs
  show wpC M A (spliced ((false, x) :: rest) >>= _) Q E s
  refine wpC_bind (wpC_mono h (fun vs s' h' => ?_) fun _ _ x => x)
  refine wpC_holding ?_
  exact wpC_bind (wpC_pure (wpC_bind (wpC_pure (wpC_pure h'))))
theorem tailC {t : Sem Value} {Q : Value → Shared → Prop} (ht : wpC M A t Q E s) : wpC M A (t >>= fun r => holding [r] point >>= fun _ => pure r) Q E s :=
  wpC_bind (wpC_mono ht (fun r s₂ hr => wpC_bind (wpC_holding (wpC_of_any (wpAny_point (wpC_pure hr))))) fun _ _ x => x)
theorem withC_type {pos : Pos} {T : String} {args : List (Bool × Sem Value)} {Q : Value → Shared → Prop} (hplain : args.any (·.1) = false)
    (h : wpC M A (evalArgs (.type T) true args []) (fun a s₁ => wpC M A (call (.type T) ([] ++ a.pos) a.kw) Q E s₁) E s) :
    wpC M A (callWith pos (.type T) [] args []) Q E s := by
  unfold callWith
  refine wpC_bind (wpC_holding (wpC_mono h (fun a s₁ h₁ => wpC_bind (wpC_of_any (wpAny_standAt ?_))) fun _ _ x => x))
  simp only [hplain, List.any_nil, Bool.or_false]
  exact wpC_bind (wpC_pure (tailC h₁))
theorem withC_fn {pos : Pos} {a : Addr} {o : Obj} {fd : FuncData} {args : List (Bool × Sem Value)} {Q : Value → Shared → Prop} (hplain : args.any (·.1) = false) (hd : o.data = .func fd)
    (h : wpC M A (evalArgs (.ref a) true args []) (fun x s₁ => s₁.heap.get? a = some o ∧ wpC M A (call (.ref a) ([] ++ x.pos) x.kw) Q E s₁) E s) :
    wpC M A (callWith pos (.ref a) [] args []) Q E s := by
  unfold callWith
  refine wpC_bind (wpC_holding (wpC_mono h (fun x s₁ h₁ => wpC_bind (wpC_of_any (wpAny_standAt ?_))) fun _ _ x => x))
  simp only [hplain, List.any_nil, Bool.or_false]
  refine wpC_bind (m := keeperOf (.ref a)) (wpC_of_any ?_)
  unfold keeperOf
  refine wpAny_bind (wpAny_load h₁.1 ?_)
  rw [hd]
  refine wpAny_pure ?_
  dsimp only
  split
  · exact tailC h₁.2
  · exact tailC (by unfold callMarked; exact wpC_keep h₁.2)
theorem Call_C {func : Expr} {args : List Expr} {pos : Pos} {Q : Value → Shared → Prop}
    (h : wpAny M A (eval func env) (fun f s₁ => wpC M A (callWith pos f [] (backTo pos (starEach args env)) []) Q E s₁) E s)
    (he : eval (.Call func args [] pos) env = (do callWith pos (← eval func env) [] (backTo pos (starEach args env)) (backToKw pos (keywordEach [] env))) := by rfl) :
    wpC M A (eval (.Call func args [] pos) env) Q E s := by
  rw [he]; exact wpC_seq h
/-- one argument, two arguments: each in the clean logic -/
theorem typeC1 {pos : Pos} {T : String} {e : Expr} {Q : Value → Shared → Prop} (he : backTo pos (starEach [e] env) = [(false, eval e env)])
    (h : wpC M A (eval e env) (fun v s₁ => wpC M A (call (.type T) [v]) Q E s₁) E s) : wpC M A (callWith pos (.type T) [] (backTo pos (starEach [e] env)) []) Q E s := by
  rw [he]; exact withC_type rfl (argsC (splC_cons (wpC_mono h (fun _ _ q => splC_nil q) fun _ _ x => x)))
theorem fnC1 {pos : Pos} {a : Addr} {o : Obj} {fd : FuncData} {e : Expr} {Q : Value → Shared → Prop} (hd : o.data = .func fd) (he : backTo pos (starEach [e] env) = [(false, eval e env)])
    (h : wpC M A (eval e env) (fun v s₁ => s₁.heap.get? a = some o ∧ wpC M A (call (.ref a) [v]) Q E s₁) E s) : wpC M A (callWith pos (.ref a) [] (backTo pos (starEach [e] env)) []) Q E s := by
  rw [he]; exact withC_fn rfl hd (argsC (splC_cons (wpC_mono h (fun _ _ q => splC_nil q) fun _ _ x => x)))
theorem fnC2 {pos : Pos} {a : Addr} {o : Obj} {fd : FuncData} {e e' : Expr} {Q : Value → Shared → Prop} (hd : o.data = .func fd) (he : backTo pos (starEach [e, e'] env) = [(false, eval e env), (false, eval e' env)])
    (h : wpC M A (eval e env) (fun v s₁ => wpC M A (eval e' env) (fun v' s₂ => s₂.heap.get? a = some o ∧ wpC M A (call (.ref a) [v, v']) Q E s₂) E s₁) E s) : wpC M A (callWith pos (.ref a) [] (backTo pos (starEach [e, e'] env)) []) Q E s := by
  rw [he]; exact withC_fn rfl hd (argsC (splC_cons (wpC_mono h (fun _ _ q => splC_cons (wpC_mono q (fun _ _ q => splC_nil q) fun _ _ x => x)) fun _ _ x => x)))
theorem If_C {test body orelse pos} {Q : Flow → Shared → Prop}
    (h : wpAny M A (isTrue test env (eval test env)) (fun b s₂ => if b then wpC M A (execs body env) Q E s₂ else wpC M A (execs orelse env) Q E s₂) E s) :
    wpC M A (exec (.If test body orelse pos) env) Q E s := fun Γ p hΓ hc => by
  simp only [exec_If, Sem.wp_bind', Sem.wp_cmd_standAt]
  refine Sem.wp_mono M Γ _ (fun b p₂ s₂ h₂ => ?_) (fun _ _ _ h' => h') _ _ (h Γ _ hΓ)
  cases b <;> exact h₂ Γ _ hΓ hc
end
end
/-! Swap -/
section
set_option maxRecDepth 100000
set_option maxHeartbeats 4000000
theorem size_chunks {k width : Nat} (hw : 0 < width) : Builtin.Range.rangeSize 0 ((k * width : Nat) : Int) (width : Int) = (k : Int) := by
  rw [rangeSize_pos (by omega) (by omega)]
  have e : ((k * width : Nat) : Int) + (width : Int) - 1 = ((k * width + (width - 1) : Nat) : Int) := by omega
  rw [e, ← Int.natCast_ediv, Nat.mul_comm, Nat.mul_add_div hw, Nat.div_eq_of_lt (by omega)]
  rfl
theorem small_chunks {k width : Nat} (hw : 0 < width) (hz : k * width ≤ 4096) (hz' : width ≤ 4096) : Builtin.Range.small 0 ((k * width : Nat) : Int) (width : Int) = true := by
  unfold Builtin.Range.small
  rw [size_chunks hw]
  have hk : k ≤ 4096 := Nat.le_trans (Nat.le_mul_of_pos_right k hw) hz
  simp only [Builtin.Range.rangeFitsLong, Bool.and_eq_true, Bool.or_eq_true, decide_eq_true_eq, beq_iff_eq, show ((width : Int)) > 0 by omega, if_true]
  generalize k * width = m at hz
  omega
def swAt (data : Array UInt8) (width p : Nat) : UInt8 := data.getD (p / width * width + (width - 1 - p % width)) 0
def swp (data : Array UInt8) (width : Nat) : Array UInt8 := (Array.range data.size).map (swAt data width)
def Part (data b : Array UInt8) (width q j : Nat) : Prop := b.size = data.size ∧ (∀ p, p < q * width → b.getD p 0 = swAt data width p) ∧ ∀ p, q * width + (width - j) ≤ p → p < q * width + width → b.getD p 0 = swAt data width p
theorem part_done {data b : Array UInt8} {width q : Nat} (h : Part data b width q width) : Part data b width (q + 1) 0 := by
  obtain ⟨h1, h2, h3⟩ := h
  refine ⟨h1, fun p hp => ?_, fun p hp hp' => by omega⟩
  rw [Nat.add_mul, Nat.one_mul] at hp
  by_cases hq : p < q * width
  · exact h2 p hq
  · exact h3 p (by omega) hp
theorem part_end {data b : Array UInt8} {width k : Nat} (h : Part data b width k 0) (hk : data.size = k * width) : b = swp data width := by
  obtain ⟨h1, h2, _⟩ := h
  apply Array.ext
  · rw [h1, swp, Array.size_map, Array.size_range]
  intro i hi hi'
  have := h2 i (by omega)
  have e : (swp data width)[i] = swAt data width i := by simp [swp]
  rw [e, ← this]
  simp [Array.getD, hi]
theorem part_step {data b : Array UInt8} {width q j k : Nat} (h : Part data b width q j) (hq : q < k) (hj : j < width) (hk : data.size = k * width) :
    Part data (b.setIfInBounds (q * width + (width - 1 - j)) (data.getD (q * width + j) 0)) width q (j + 1) := by
  obtain ⟨h1, h2, h3⟩ := h
  have hin : q * width + width ≤ b.size := by
    rw [h1, hk]
    calc q * width + width = (q + 1) * width := by rw [Nat.add_mul, Nat.one_mul]
      _ ≤ k * width := Nat.mul_le_mul_right _ hq
  have get : ∀ p, (b.setIfInBounds (q * width + (width - 1 - j)) (data.getD (q * width + j) 0)).getD p 0 = if q * width + (width - 1 - j) = p then data.getD (q * width + j) 0 else b.getD p 0 := by
    intro p
    simp only [Array.getD_eq_getD_getElem?, Array.getElem?_setIfInBounds]
    split
    · rename_i e
      subst e
      rw [if_pos (by omega)]; rfl
    · rfl
  refine ⟨by simp [h1], fun p hp => ?_, fun p hp hp' => ?_⟩
  · rw [get, if_neg (by omega)]; exact h2 p hp
  · rw [get]
    split
    · rename_i e
      subst e
      unfold swAt
      have hlt : width - 1 - j < width := by omega
      rw [Nat.mul_comm q width, Nat.mul_add_div (by omega), Nat.div_eq_of_lt hlt, Nat.mul_add_mod, Nat.mod_eq_of_lt hlt, Nat.add_zero, Nat.mul_comm q width]
      congr 1
      omega
    · exact h3 p (by omega) hp'
end
/-! Comp -/
section
set_option maxRecDepth 100000
set_option maxHeartbeats 4000000
theorem news_more2 {h₀ h h' : Heap} {L a : Addr} {o : Obj} {m : Str → Option Value} {news : List (Addr × Obj)} (F : Fr h₀ L h m) (N : News h₀ L h news) (k : Kp h h') (ha : h.get? a = none) (ho : h'.get? a = some o) :
    News h₀ L h' ((a, o) :: news) := by
  refine news_cons ho ?_ ?_ (news_kp N k)
  · rintro rfl
    obtain ⟨oL, _, _, hL, _⟩ := F.ns
    rw [ha] at hL; cases hL
  · cases q : h₀.get? a with
    | none => rfl
    | some o' => have := F.keep _ _ q; rw [ha] at this; cases this
section
variable {prog : Program} {w : World} {A : Around} {E : Value → Shared → Prop} {env : Env} {s₂ : Shared}
theorem quiet_nil {scope : Scope} {x : Str} {elt : Expr} {wr : List Addr} {P : Nat → Value → Prop} {G : Value → Value → Prop}
    (he : ∀ C i v s₃ m₃ E', P i v → s₃.heap.Ns C m₃ → m₃ x = some v → KpBut wr s₂.heap s₃.heap → wpAny (model prog w) A (eval elt (compEnv scope C env)) (fun y s₄ => G v y ∧ Keeps s₃ s₄) E' s₃) :
    QuietOn prog w A env scope x [] elt wr P (fun _ => true) G s₂ where
  tests := fun _ _ _ s₃ _ _ _ _ _ _ _ => wpAny_pure ⟨rfl, s₃.heap, s₃.toks, rfl, fun _ _ e => e⟩
  elt := fun C i v s₃ m₃ E' hp _ hn hm hk _ => he C i v s₃ m₃ E' hp hn hm hk
theorem compA_of {h₀ : Heap} {m : Str → Option Value} {news : List (Addr × Obj)} {I : Addr} {fp : List Addr} {n : Nat} {P : Nat → Value → Prop} {St : Nat → Heap → Prop} {scope : Scope} {x z : Str} {elt : Expr} {Q : Flow → Shared → Prop} {G : Value → Value → Prop}
    (F : Fr h₀ env.locals s₂.heap m) (N : News h₀ env.locals s₂.heap news) (Wk : Walks prog w A I fp [I] n P St) (hsz : n ≤ sizeLine) (hst : St 0 s₂.heap) (hfp : ∀ b ∈ fp, b < s₂.heap.objs.size)
    (hI : h₀.get? I = none) (hIL : @Ne Nat I env.locals) (off : Off I news)
    (he : ∀ C i v s₃ m₃ E', P i v → s₃.heap.Ns C m₃ → m₃ x = some v → KpBut [I] s₂.heap s₃.heap → wpAny (model prog w) A (eval elt (compEnv scope C env)) (fun y s₄ => G v y ∧ Keeps s₃ s₄) E' s₃)
    (h : ∀ D h' tk ys nn vs, vs.length = n → (∀ j v, vs[j]? = some v → P j v) → Paired G vs ys → Fr h₀ env.locals h' (fun y => if y = z then some (.ref D) else m y) →
      News h₀ env.locals h' ((D, W.listOf ys.toArray nn) :: news) → Q .next { s₂ with heap := h', toks := tk }) :
    CompPostA prog w A env scope x z [] elt Q (.ref I) s₂ := by
  refine ⟨fun _ => true, G, I, fp, [I], n, P, St, m, rfl, Wk, hsz, hst, hfp, nin1 (Ne.symm hIL), F.ns, quiet_nil he, ?_⟩
  intro D h' tk ys vs hD hl hpl hlen hP hF hn hk
  obtain ⟨nn, hp⟩ := hpl
  have ef : vs.filter (fun _ => true) = vs := by simp
  rw [ef] at hF
  have hDL : @Ne Nat D env.locals := by
    rintro rfl
    obtain ⟨oL, _, _, hL, _⟩ := F.ns
    rw [hD] at hL; cases hL
  have hD0 : h₀.get? D = none := by
    cases q : h₀.get? D with
    | none => rfl
    | some o => have := F.keep _ _ q; rw [hD] at this; cases this
  refine h D h' tk ys.toList nn vs hlen hP hF ⟨hn, fun b o e => ?_, F.above⟩ ?_
  · refine hk b o ?_ (nin1 ?_) (F.keep b o e)
    · rintro rfl
      exact absurd (Heap.lt_size e) (Nat.not_lt.mpr F.above)
    · rintro rfl
      rw [hI] at e; cases e
  · refine news_cons (by rw [Array.toArray_toList]; exact hp) hDL hD0 fun p hp => ?_
    obtain ⟨g1, g2, g3⟩ := N p hp
    exact ⟨hk _ _ g2 (off.nin p hp) g1, g2, g3⟩
theorem compA_list {s : Shared} {h₀ : Heap} {m : Str → Option Value} {news : List (Addr × Obj)} {l : Addr} {items : List Value} {scope : Scope} {x z : Str} {elt : Expr} {Q : Flow → Shared → Prop} {G : Value → Value → Prop} (hh : A.handled = none)
    (F : Fr h₀ env.locals s.heap m) (N : News h₀ env.locals s.heap news) (hl : s.heap.IsList l items.toArray) (hsz : items.length ≤ sizeLine)
    (he : ∀ C v s₃ m₃ E', v ∈ items → s₃.heap.Ns C m₃ → m₃ x = some v → Kp s.heap s₃.heap → wpAny (model prog w) A (eval elt (compEnv scope C env)) (fun y s₄ => G v y ∧ Keeps s₃ s₄) E' s₃)
    (h : ∀ D h' tk ys nn, Paired G items ys → Fr h₀ env.locals h' (fun y => if y = z then some (.ref D) else m y) → News h₀ env.locals h' ((D, W.listOf ys.toArray nn) :: news) → Q .next { s with heap := h', toks := tk }) :
    wpAny (model prog w) A (pyIter (.ref l)) (CompPostA prog w A env scope x z [] elt Q) E s := by
  obtain ⟨ol, hol, hx⟩ := hl
  have hlI : @Ne Nat l s.heap.objs.size := Nat.ne_of_lt (Heap.lt_size hol)
  have hL := fr_lt F
  refine wpAny_pyIter_list ⟨ol, hol, hx⟩ ?_
  refine compA_of (s₂ := ⟨_, _, _, _, _⟩) (G := G) (F.push _) (N.pushKeep _) (Walks.list hh s.heap.objs.size l hlI items.toArray) (by simpa using hsz) ⟨⟨_, Heap.get?_push_size _ rfl, rfl, rfl⟩, ⟨ol, Heap.get?_push_of_some _ hol, hx⟩⟩ ?_ (fresh_none F (Nat.le_refl _)) (by omega) ?_ ?_ ?_
  · intro b hb
    rw [Heap.size_push]
    rcases List.mem_cons.mp hb with rfl | hb
    · exact Nat.lt_succ_self _
    rcases List.mem_cons.mp hb with rfl | hb
    · exact Nat.lt_succ_of_lt (Heap.lt_size hol)
    · cases hb
  · intro b hb
    obtain ⟨p, hp, rfl⟩ := List.mem_map.mp hb
    exact Nat.ne_of_lt (news_lt N p hp)
  · intro C i v s₃ m₃ E' hP hn hm hk
    refine he C v s₃ m₃ E' ?_ hn hm fun b o q => hk b o (nin1 (Nat.ne_of_lt (Heap.lt_size q))) (Heap.get?_push_of_some _ q)
    have hP' : items.toArray[i]? = some v := hP
    rw [List.getElem?_toArray] at hP'
    exact List.mem_of_getElem? hP'
  · intro D h' tk ys nn vs hlen hP hF F' N'
    have e : vs = items := by
      apply List.ext_getElem?
      intro j
      cases q : vs[j]? with
      | some v => have := hP j v q; rw [List.getElem?_toArray] at this; exact this.symm
      | none =>
        rw [eq_comm, List.getElem?_eq_none_iff]
        rw [List.getElem?_eq_none_iff] at q
        simp only [List.size_toArray] at hlen
        omega
    subst e
    exact h D h' tk ys nn hF F' N'
theorem ints_mem {vs : List Value} {ns : List Int} (h : IntsAre vs ns) {v : Value} (hv : v ∈ vs) : ∃ n t, n ∈ ns ∧ v = .int n t := by
  induction h with
  | nil => cases hv
  | cons n t _ ih =>
    rcases List.mem_cons.mp hv with rfl | hv
    · exact ⟨n, t, .head _, rfl⟩
    · obtain ⟨n', t', h1, h2⟩ := ih hv
      exact ⟨n', t', .tail _ h1, h2⟩
theorem ints_paired {f : Int → Int} {vs ys : List Value} {ns : List Int} (h : IntsAre vs ns) (hp : Paired (fun v y => ∃ n t t', v = .int n t ∧ y = .int (f n) t') vs ys) : IntsAre ys (ns.map f) := by
  induction h generalizing ys with
  | nil => cases hp; exact .nil
  | cons n t _ ih =>
    cases hp with
    | cons h1 h2 =>
      obtain ⟨n', t1, t2, e1, rfl⟩ := h1
      cases e1
      exact .cons _ _ (ih h2)
theorem ints_length {vs : List Value} {ns : List Int} (h : IntsAre vs ns) : vs.length = ns.length := by
  induction h with
  | nil => rfl
  | cons _ _ _ ih => simp [ih]
end
end
/-! Comp2 -/
section
set_option maxRecDepth 100000
set_option maxHeartbeats 4000000
def held (c : Nat) : Bool := !(c == 45 || c == 83 || c == 84)
theorem any_held (c : Nat) : (([45, 83, 84] : List Int).any fun x => x == (c : Int)) = !held c := by
  have e : ∀ k : Nat, ((k : Int) == (c : Int)) = (c == k) := fun k => by
    rw [Bool.eq_iff_iff]; simp only [beq_iff_eq]; omega
  simp only [List.any_cons, List.any_nil, Bool.or_false, held, Bool.not_not]
  have := e 45; have := e 83; have := e 84
  simp_all [Bool.or_assoc]
section
variable {prog : Program} {w : World} {A : Around} {E : Value → Shared → Prop} {env : Env}
theorem compA_bytes {s : Shared} {h₀ : Heap} {m : Str → Option Value} {news : List (Addr × Obj)} {b : Array UInt8} {t : Tok} {scope : Scope} {x z : Str} {elt : Expr} {Q : Flow → Shared → Prop} (f : UInt8 → Value) (hh : A.handled = none)
    (F : Fr h₀ env.locals s.heap m) (N : News h₀ env.locals s.heap news) (hsz : b.size ≤ sizeLine)
    (he : ∀ C c u s₃ m₃ E', s₃.heap.Ns C m₃ → m₃ x = some (.int (c.toNat : Int) u) → wpAny (model prog w) A (eval elt (compEnv scope C env)) (fun y s₄ => y = f c ∧ Keeps s₃ s₄) E' s₃)
    (h : ∀ D h' tk nn, Fr h₀ env.locals h' (fun y => if y = z then some (.ref D) else m y) → News h₀ env.locals h' ((D, W.listOf (b.toList.map f).toArray nn) :: news) → Q .next { s with heap := h', toks := tk }) :
    wpAny (model prog w) A (pyIter (.bytes b t)) (CompPostA prog w A env scope x z [] elt Q) E s := by
  have hL := fr_lt F
  refine KBw.pyIter_bytes ?_
  refine compA_of (s₂ := ⟨_, _, _, _, _⟩) (G := fun v y => ∃ (c : UInt8) (u : Tok), v = .int (c.toNat : Int) u ∧ y = f c) (F.push _) (N.pushKeep _) (KBw.walks hh s.heap.objs.size b t) hsz ⟨_, Heap.get?_push_size _ rfl, rfl, rfl⟩ ?_ (fresh_none F (Nat.le_refl _)) (by omega) ?_ ?_ ?_
  · intro b hb
    rw [Heap.size_push]
    rcases List.mem_cons.mp hb with rfl | hb
    · exact Nat.lt_succ_self _
    · cases hb
  · intro b hb
    obtain ⟨p, hp, rfl⟩ := List.mem_map.mp hb
    exact Nat.ne_of_lt (news_lt N p hp)
  · intro C i v s₃ m₃ E' hP hn hm hk
    obtain ⟨c, u, _, rfl⟩ := hP
    exact wpAny_mono (he C c u s₃ m₃ E' hn hm) (fun y s₄ q => ⟨⟨c, u, rfl, q.1⟩, q.2⟩) fun _ _ e => e
  · intro D h' tk ys nn vs hlen hP hF F' N'
    have e : ∀ (bs : List UInt8) (vs ys : List Value), vs.length = bs.length → (∀ (j : Nat) (v : Value), vs[j]? = some v → ∃ (c : UInt8) (u : Tok), bs[j]? = some c ∧ v = Value.int (c.toNat : Int) u) → Paired (fun v y => ∃ (c : UInt8) (u : Tok), v = Value.int (c.toNat : Int) u ∧ y = f c) vs ys → ys = bs.map f := by
      intro bs
      induction bs with
      | nil =>
        intro vs ys h1 h2 h3
        cases vs with
        | nil => cases h3; rfl
        | cons _ _ => cases h1
      | cons c bs ih =>
        intro vs ys h1 h2 h3
        cases h3 with
        | nil => cases h1
        | cons hq hr =>
          obtain ⟨c1, u1, e1, rfl⟩ := hq
          obtain ⟨c2, u2, e2, e3⟩ := h2 0 _ rfl
          cases e2
          rw [e1] at e3
          injection e3 with e4 _
          have ec : c1 = c := UInt8.toNat_inj.mp (by omega)
          rw [ih _ _ (by simpa using h1) (fun j v q => h2 (j + 1) v (by simpa using q)) hr, ec]
          rfl
    have := e b.toList vs ys (by simpa using hlen) (fun j v q => by
      obtain ⟨c, u, h1, h2⟩ := hP j v q
      exact ⟨c, u, by simpa using h1, h2⟩) hF
    subst this
    exact h D h' tk nn F' N'
theorem notin3 {s₃ : Shared} {C : Addr} {m₃ : Str → Option Value} {x : Str} {px p1 p2 p3 p4 p5 : Pos} {k1 k2 k3 k4 : Nat} {c : UInt8} {u : Tok} (hk : env.scope.kind = .function) (hl : env.kindOf x = some .local) (hC : env.locals = C) (hn : s₃.heap.Ns C m₃) (hm : m₃ x = some (.int (c.toNat : Int) u)) (hd : (x == ("__debug__" : Str)) = false) :
    wpAny (model prog w) A (eval (.Compare (.Name x px) [.NotIn] [.Tuple [.Constant (.int 45) k1 p1, .Constant (.int 83) k2 p2, .Constant (.int 84) k3 p3] k4 p4] p5) env) (fun y s₄ => y = .bool (held c.toNat) ∧ Keeps s₃ s₄) E s₃ := by
  subst hC
  refine wpAny_Compare1 (wpAny_Name (wpAny_loadName_local hk hl hn hm ?_) hd)
  refine Tuple_ ?_
  refine args_cons (wpAny_Constant_int (args_cons (wpAny_Constant_int (args_cons (wpAny_Constant_int (args_nil ?_))))))
  simp only [newTuple]
  refine wpAny_newObj_type ?_
  refine notin_tuple_ints ⟨_, Heap.get?_push_size _ rfl, rfl, _, rfl⟩ (.cons _ _ (.cons _ _ (.cons _ _ .nil))) ?_
  refine ⟨?_, _, _, rfl, fun _ _ e => Heap.get?_push_of_some _ e⟩
  rw [any_held]; simp
end
end
/-! Moved -/
section
set_option maxRecDepth 100000
set_option maxHeartbeats 4000000
theorem bInts_inj {a b : Array UInt8} (h : KBw.bInts a = KBw.bInts b) : a = b := by
  have e : ∀ x y : List UInt8, x.map (fun c => (c.toNat : Int)) = y.map (fun c => (c.toNat : Int)) → x = y := by
    intro x y h
    exact List.map_inj_right (fun a b q => UInt8.toNat_inj.mp (by exact Int.ofNat_inj.mp q)) |>.mp h
  exact Array.toList_inj.mp (e _ _ h)
theorem bInts_list (l : List UInt8) : KBw.bInts l.toArray = l.map (fun c => (c.toNat : Int)) := by simp [KBw.bInts]
theorem picked_eq {l : List UInt8} {lo hi : Option Int} {p q : Nat} (hp : lo.elim 0 (clipAt l.length) = p) (hq : hi.elim l.length (clipAt l.length) = q)
    (h : KBw.bInts (KBy.picked l.toArray lo hi) = ((KBw.bInts l.toArray).drop (lo.elim 0 (clipAt (KBw.bInts l.toArray).length))).take (hi.elim (KBw.bInts l.toArray).length (clipAt (KBw.bInts l.toArray).length) - lo.elim 0 (clipAt (KBw.bInts l.toArray).length))) :
    KBy.picked l.toArray lo hi = ((l.drop p).take (q - p)).toArray := by
  apply bInts_inj
  have hlen : (KBw.bInts l.toArray).length = l.length := by rw [bInts_list, List.length_map]
  rw [h, hlen, hp, hq, bInts_list, bInts_list, List.map_take, List.map_drop]
theorem clip_in {n k : Nat} (h : k ≤ n) : clipAt n (k : Int) = k := by
  have := clipAt_cast n (k : Int)
  rw [if_neg (by omega)] at this
  omega
section
variable {prog : Program} {w : World} {A : Around} {E : Value → Shared → Prop} {s : Shared} {h₀ : Heap} {L : Addr} {m : Str → Option Value} {news : List (Addr × Obj)} {value slice : Expr} {t : Tok} {Q : Value → Shared → Prop} {b : List UInt8} {l u : Value} {lo hi : Option Int}
theorem cut_slice {p q : Nat} (hl : IsPart l lo) (hu : IsPart u hi) (hz : b.length ≤ 4096) (hp : lo.elim 0 (clipAt b.length) = p) (hq : hi.elim b.length (clipAt b.length) = q) (F : Fr h₀ L s.heap m) (N : News h₀ L s.heap news)
    (h : ∀ h' t' k, Fr h₀ L h' m → News h₀ L h' news → Q (.bytes ((b.drop p).take (q - p)).toArray t') { s with heap := h', toks := k })
    (hs : subscripted slice false (.bytes b.toArray t) (.ref s.heap.objs.size) = operate [.ref s.heap.objs.size, .bytes b.toArray t] (getItem (.bytes b.toArray t) (.ref s.heap.objs.size)) := by with_unfolding_all rfl)
    (ht : ∀ r, letTemporaryGo value (.bytes b.toArray t) r = pure () := by intro _; with_unfolding_all rfl) :
    wpAny (model prog w) A (subscriptTail value slice (.bytes b.toArray t) (.ref s.heap.objs.size)) Q E { s with heap := s.heap.push { cls := .type "slice", data := .fields #[l, u, .none] } } := by
  refine KBc.slice_K F N rfl hl hu (by rw [bInts_list, List.length_map]; omega) (fun h' t' k F' N' e => ?_) hs ht
  rw [picked_eq hp hq e]
  exact h h' t' k F' N'
end
theorem swp_one {l : List UInt8} (h : l ≠ []) : swp l.toArray l.length = l.reverse.toArray := by
  have hl : 0 < l.length := List.length_pos_iff.mpr h
  apply Array.ext
  · simp [swp]
  intro i hi hi'
  have hi2 : i < l.length := by simpa [swp] using hi
  have e : (swp l.toArray l.length)[i] = swAt l.toArray l.length i := by simp [swp]
  rw [e]
  unfold swAt
  rw [Nat.div_eq_of_lt hi2, Nat.mod_eq_of_lt hi2, Nat.zero_mul, Nat.zero_add]
  have hj : l.length - 1 - i < l.length := by omega
  simp [Array.getD, hj, List.getElem_reverse]
def hs (l : List UInt8) (i : Nat) : Bool := held (l.getD i 0).toNat
/-- the cut after i turns -/
def cutTo (l : List UInt8) : Nat → Nat
  | 0 => l.length
  | i + 1 => if hs l (l.length - 3 - i + 1) && !hs l (l.length - 3 - i) then l.length - 3 - i + 3 else cutTo l i
def cutOf (l : List UInt8) : Nat := cutTo l (l.length - 2)
theorem cutTo_bounds {l : List UInt8} (h : 3 ≤ l.length) : ∀ i, i ≤ l.length - 2 → 3 ≤ cutTo l i ∧ cutTo l i ≤ l.length
  | 0, _ => ⟨h, Nat.le_refl _⟩
  | i + 1, hi => by
    have := cutTo_bounds h i (by omega)
    simp only [cutTo]
    split <;> omega
def movedOf (l : List UInt8) : List UInt8 := (((l.take (cutOf l)).reverse).take 1) ++ (((l.take (cutOf l)).reverse).drop 1).reverse ++ l.drop (cutOf l)
end
/-! Cells -/
section
set_option maxRecDepth 100000
set_option maxHeartbeats 4000000
section
variable {prog : Program} {w : World} {A : Around} {E : Value → Shared → Prop} {s : Shared} {name qual : Str} {params : Arguments} {body : List Stmt} {scope : Scope} {dV kV doc pm cdv ct : Value} {an : Option Addr} {fo : Obj} {f : Addr} {vals : List Value} {binds : List (Str × Value)} {Q : Value → Shared → Prop}
theorem callC_cells (hlim : s.heap.NoLimit) (hroom : A.depth < recursionLimit)
    (ho : s.heap.get? f = some fo) (hd : fo.data = .func (fnX name qual params body scope [] dV kV doc pm an cdv ct)) (hcd : s.heap.CodeRec cdv qual)
    (hbind : bindArgs (fnX name qual params body scope [] dV kV doc pm an cdv ct) ⟨vals, []⟩ = pure binds)
    (hkind : ∀ n, ∀ x ∈ binds, scope.names.lookup x.1 = some .local ∨ (scope.names.lookup x.1 = some .cell ∧ ((cellsFrom n scope.names []).lookup x.1).isSome = true))
    (hnd : ((cellsFrom 0 scope.names []).map (·.1)).Nodup)
    (h : ∀ h₁ tk cells, Fr s.heap s.heap.objs.size h₁ (bindL (envOfC qual scope s.heap.objs.size f cdv).kindOf binds fun _ => none) → News s.heap s.heap.objs.size h₁ cells →
      CellsAre (bindC (envOfC qual scope s.heap.objs.size f cdv).kindOf binds fun _ => none) (cellsFrom (s.heap.objs.size + 1) scope.names []) cells →
      wpC (model prog w) (A.deeper (envOfC qual scope s.heap.objs.size f cdv)) (execs body (envOfC qual scope s.heap.objs.size f cdv))
        (fun fl s' => Q (match fl with | .ret v => v | _ => .none) s') NoE { s with heap := h₁, toks := tk })
    (hco : scope.isCoroutine = false := by rfl) (hgen : scope.isGenerator = false := by rfl) (hk : scope.kind = .function := by rfl) : wpC (model prog w) A (call (.ref f) vals) Q E s := by
  refine wpC_call (codeC_call_function hroom ho hd hco hgen rfl hcd ?_)
  rw [hbind]
  refine wpAny_pure (wpAny_newFunctionEnv_cells hk (hkind _) fun env' he s' x => ?_)
  subst he
  refine ⟨hlim.keeps x.toInCall.keep, codeC_func ?_⟩
  obtain ⟨h₁, tk, rfl, _⟩ := x.done
  have hk₁ := x.toInCall.keep
  obtain ⟨cells, NC, Y⟩ := Cl.news (h₀ := s.heap) (Nat.le_refl _) fun n c hm => ⟨x.cell n c (lookup_of_mem_nodup (cellsFrom_names scope.names 0 (s.heap.objs.size + 1) [] [] rfl ▸ hnd) hm), x.above n c hm⟩
  exact h h₁ tk cells ⟨x.toInCall.ns, hk₁, Nat.le_refl _⟩ (fun p hp => ⟨(NC p hp).1, (NC p hp).2.1, (NC p hp).2.2⟩) Y
end
section
variable {M : Model} {A : Around} {E : Value → Shared → Prop} {s : Shared} {K : Frag} {h₀ : Heap} {mg mb : Str → Option Value} {p : Program} {loose : List Str} {mean : ExcName → Option Value} {env : Env} {scope : Scope} {C : Addr} {x : Str} {pos : Pos} {v : Value} {Q : Value → Shared → Prop}
/-- a builtin's name in a comprehension's block -/
theorem name_blt (X : K.In h₀) (T : Top p loose mean mg mb h₀) (keep : Kp h₀ s.heap) (e : nsIn K mainGlobals x = some none) (hv : bootBuiltins x = some v) (h : Q v s) (hn : x ≠ "__name__" := by decide)
    (hg : env.globals = mainGlobals := by rfl) (hb : env.builtins = builtinsNs := by rfl) (hk : scope.kind = .function := by rfl) (hx : (compEnv scope C env).kindOf x = some .globalImplicit := by rfl) (hd : (x == ("__debug__" : Str)) = false := by decide) :
    wpAny M A (eval (.Name x pos) (compEnv scope C env)) Q E s := by
  have T' := topRead_of T
  refine Name_function_global hk hx (loadGlobal_builtin (mg := mg) (mb := mb) ?_ (mg_none_of X T'.g e) ?_ ((T'.builtins x hn).trans hv) h) hd
  · show s.heap.Ns env.globals mg
    rw [hg]; exact T'.g.keeps keep
  · show s.heap.Ns env.builtins mb
    rw [hb]; exact T'.b.keeps keep
end
section
variable {M : Model} {A : Around} {E : Value → Shared → Prop} {s : Shared} {env : Env}
/-- the next statement by what holds behind it -/
theorem nextC_mid {st rest} {Q : Flow → Shared → Prop} (Mid : Shared → Prop) (h1 : wpC M A (exec st env) (fun f s' => f = .next ∧ Mid s') NoE s) (h2 : ∀ s', Mid s' → wpC M A (execs rest env) Q E s') :
    wpC M A (execs (st :: rest) env) Q E s := by
  refine wpC_execs_cons (wpC_mono h1 (fun f s' h => ?_) fun _ _ h => h.elim)
  obtain ⟨rfl, h⟩ := h
  exact h2 s' h
/-- two, three statements -/
theorem nextC_mid2 {st st2 rest} {Q : Flow → Shared → Prop} (Mid : Shared → Prop) (h1 : wpC M A (execs [st, st2] env) (fun f s' => f = .next ∧ Mid s') NoE s) (h2 : ∀ s', Mid s' → wpC M A (execs rest env) Q E s') :
    wpC M A (execs (st :: st2 :: rest) env) Q E s := fun Γ p hΓ hc => by
  have h := h1 Γ p hΓ hc
  rw [execs_cons, Sem.wp_bind'] at h ⊢
  refine Sem.wp_mono M Γ _ (fun f p' s' h' => ?_) (fun _ _ _ h' => h'.elim) _ _ h
  cases f with
  | next =>
    have h' : Sem.wp M Γ (execs [st2] env) (fun f _ s' => f = .next ∧ Mid s') (fun _ _ _ => False) p' s' := h'
    show Sem.wp M Γ (execs (st2 :: rest) env) _ _ p' s'
    rw [execs_cons, Sem.wp_bind'] at h' ⊢
    refine Sem.wp_mono M Γ _ (fun f p'' s'' h'' => ?_) (fun _ _ _ h' => h'.elim) _ _ h'
    cases f with
    | next => exact h2 s'' h''.2 Γ p'' hΓ hc
    | _ => cases h''.1
  | _ => cases h'.1
end
end
/-! Defs -/
section
set_option maxRecDepth 100000
set_option maxHeartbeats 4000000
def worthTo (b : Array UInt8) (start : Nat) : Nat → Nat
  | 0 => 0
  | i + 1 => worthTo b start i + (if held (b.getD i 0).toNat then 256 / 2 ^ (start + i) else 0)
theorem worth_yes {b : Array UInt8} {start i : Nat} {c : UInt8} (hc : b[i]? = some c) (h : held c.toNat = true) : (worthTo b start (i + 1) : Int) = (worthTo b start i : Int) + ((256 / 2 ^ (start + i) : Nat) : Int) := by
  have e : b.getD i 0 = c := by simp [Array.getD_eq_getD_getElem?, hc]
  simp only [worthTo, e, h, if_true]; norm_cast
theorem worth_no {b : Array UInt8} {start i : Nat} {c : UInt8} (hc : b[i]? = some c) (h : held c.toNat = false) : worthTo b start (i + 1) = worthTo b start i := by
  have e : b.getD i 0 = c := by simp [Array.getD_eq_getD_getElem?, hc]
  simp [worthTo, e, h]
def rowsF : Nat → Nat → Nat → List Nat
  | _, 0, a => [2 ^ a - 1]
  | _, _ + 1, 0 => [0]
  | 0, _ + 1, _ + 1 => []
  | k + 1, n + 1, a + 1 => (rowsF k n (a + 1)).map (2 * ·) ++ ((rowsF k (n + 1) a).map (2 * · + 1)).drop 1 ++ ((rowsF k (n + 1) a).map (2 * · + 1)).take 1
theorem rows_len {n a k : Nat} (hk : n + a = k) (h : k ≤ 6) : (rowsF k n a).length ≤ 64 := by
  subst hk
  have : ∀ n a : Fin 7, n.1 + a.1 ≤ 6 → (rowsF (n.1 + a.1) n a).length ≤ 64 := by decide +kernel
  exact this ⟨n, by omega⟩ ⟨a, by omega⟩ h
theorem map2 (l : List Nat) : (l.map Int.ofNat).map (fun n => 2 * n) = (l.map (2 * ·)).map Int.ofNat := by
  rw [List.map_map, List.map_map]; exact List.map_congr_left fun x _ => rfl
theorem map21 (l : List Nat) : (l.map Int.ofNat).map (fun n => 2 * n + 1) = (l.map (2 * · + 1)).map Int.ofNat := by
  rw [List.map_map, List.map_map]; exact List.map_congr_left fun x _ => rfl
end
/-! Math -/
section
set_option maxRecDepth 100000
set_option maxHeartbeats 4000000
/-! the same on rows of rights -/
def hB (c : UInt8) : Bool := held c.toNat
def cutB (bs : List Bool) : Nat → Nat
  | 0 => bs.length
  | i + 1 => if bs.getD (bs.length - 3 - i + 1) false && !bs.getD (bs.length - 3 - i) false then bs.length - 3 - i + 3 else cutB bs i
def movedB (bs : List Bool) : List Bool :=
  let c := cutB bs (bs.length - 2)
  (((bs.take c).reverse).take 1) ++ (((bs.take c).reverse).drop 1).reverse ++ bs.drop c
def valB : Nat → List Bool → Nat
  | _, [] => 0
  | p, b :: bs => (if b then 256 / 2 ^ p else 0) + valB (p + 1) bs
theorem hs_eq {l : List UInt8} {i : Nat} (h : i < l.length) : hs l i = (l.map hB).getD i false := by
  simp [hs, hB, List.getD_eq_getElem?_getD, h]
theorem cutB_eq {l : List UInt8} (h3 : 3 ≤ l.length) : ∀ i, i ≤ l.length - 2 → cutTo l i = cutB (l.map hB) i
  | 0, _ => by simp [cutTo, cutB]
  | i + 1, hi => by
    rw [cutTo, cutB, cutB_eq h3 i (by omega), hs_eq (by omega), hs_eq (by omega), List.length_map]
theorem movedB_eq {l : List UInt8} (h3 : 3 ≤ l.length) : (movedOf l).map hB = movedB (l.map hB) := by
  unfold movedOf movedB cutOf
  rw [cutB_eq h3 _ (Nat.le_refl _)]
  simp only [List.length_map, List.map_append, List.map_take, List.map_drop, List.map_reverse]
theorem valB_append : ∀ (p : Nat) (a b : List Bool), valB p (a ++ b) = valB p a + valB (p + a.length) b
  | p, [], b => by simp [valB]
  | p, x :: a, b => by
    rw [List.cons_append, valB, valB, valB_append (p + 1) a b, List.length_cons]
    rw [show p + 1 + a.length = p + (a.length + 1) by omega]; omega
theorem worth_val {l : List UInt8} {st : Nat} : ∀ i, i ≤ l.length → worthTo l.toArray st i = valB st ((l.take i).map hB)
  | 0, _ => by simp [worthTo, valB]
  | i + 1, hi => by
    have hi' : i < l.length := by omega
    rw [worthTo, worth_val i (by omega), List.take_add_one, List.getElem?_eq_getElem hi', Option.toList_some, List.map_append, valB_append]
    have e : l.toArray.getD i 0 = l[i] := by simp [Array.getD, hi']
    rw [e]
    simp only [List.map_cons, List.map_nil, valB, hB, List.length_map, List.length_take, Nat.add_zero]
    rw [Nat.min_eq_left (by omega)]
/-! a number's places -/
def bitsB (sz r : Nat) : List Bool := (List.range sz).map fun j => r / 2 ^ (sz - 1 - j) % 2 == 1
def numB : List Bool → Nat
  | [] => 0
  | b :: bs => (if b then 2 ^ bs.length else 0) + numB bs
def nextR (sz r : Nat) : Nat := numB (movedB (bitsB sz r))
def popB (sz r : Nat) : Nat := ((bitsB sz r).filter id).length
def rowsOf (sz pic : Nat) : List Nat := rowsF sz (sz - popB sz pic) (popB sz pic)
def rotOf (sz pic : Nat) : List Nat := (rowsOf sz pic).drop ((rowsOf sz pic).idxOf pic) ++ (rowsOf sz pic).take ((rowsOf sz pic).idxOf pic)
def okPic (sz pic : Nat) : Bool :=
  decide (pic ∈ rowsOf sz pic) && decide (popB sz pic ≤ sz) && ((rotOf sz pic).getD 0 0 == pic) && decide ((rowsOf sz pic).length ≤ 20) &&
    ((List.range (rotOf sz pic).length).all fun i => nextR sz ((rotOf sz pic).getD i 0) == (rotOf sz pic).getD ((i + 1) % (rotOf sz pic).length) 0 && decide ((rotOf sz pic).getD i 0 < 2 ^ sz))
theorem ok5 : (List.range 32).all (okPic 5) = true := by decide +kernel
theorem ok6 : (List.range 64).all (okPic 6) = true := by decide +kernel
def okVal (sz st : Nat) : Bool := (List.range (2 ^ sz)).all fun r => valB st (movedB (bitsB sz r)) == 512 / 2 ^ (st + sz) * nextR sz r
theorem okV5 : (List.range 5).all (okVal 5) = true := by decide +kernel
theorem okV6 : (List.range 4).all (okVal 6) = true := by decide +kernel
theorem val_next {sz st r : Nat} (hsz : sz = 5 ∨ sz = 6) (hst : st + sz ≤ 9) (hr : r < 2 ^ sz) : valB st (movedB (bitsB sz r)) = 512 / 2 ^ (st + sz) * nextR sz r := by
  rcases hsz with rfl | rfl
  · have h := List.all_eq_true.mp okV5 st (List.mem_range.mpr (by omega))
    have h' := List.all_eq_true.mp h r (List.mem_range.mpr hr)
    exact beq_iff_eq.mp h'
  · have h := List.all_eq_true.mp okV6 st (List.mem_range.mpr (by omega))
    have h' := List.all_eq_true.mp h r (List.mem_range.mpr hr)
    exact beq_iff_eq.mp h'
theorem ok_all {sz pic : Nat} (hsz : sz = 5 ∨ sz = 6) (hp : pic < 2 ^ sz) : okPic sz pic = true := by
  rcases hsz with rfl | rfl
  · exact List.all_eq_true.mp ok5 pic (List.mem_range.mpr hp)
  · exact List.all_eq_true.mp ok6 pic (List.mem_range.mpr hp)
theorem ok_facts {sz pic : Nat} (hsz : sz = 5 ∨ sz = 6) (hp : pic < 2 ^ sz) : pic ∈ rowsOf sz pic ∧ popB sz pic ≤ sz ∧ (rotOf sz pic).getD 0 0 = pic ∧ (rowsOf sz pic).length ≤ 20 ∧
    ∀ i, i < (rotOf sz pic).length → nextR sz ((rotOf sz pic).getD i 0) = (rotOf sz pic).getD ((i + 1) % (rotOf sz pic).length) 0 ∧ (rotOf sz pic).getD i 0 < 2 ^ sz := by
  have h := ok_all hsz hp
  simp only [okPic, Bool.and_eq_true, decide_eq_true_eq, beq_iff_eq, List.all_eq_true, List.mem_range] at h
  obtain ⟨⟨⟨⟨h1, h2⟩, h3⟩, h4⟩, h5⟩ := h
  exact ⟨h1, h2, h3, h4, h5⟩
/-! the signs of a stretch -/
theorem held_sign {m p : Nat} (hp : p < 9) : held (signAt m p) = (m / 2 ^ (8 - p) % 2 == 1) := by
  have h3 : p % 3 = 0 ∨ p % 3 = 1 ∨ p % 3 = 2 := by omega
  unfold signAt
  split
  · split <;> split <;> simp_all [held]
  · split
    · rcases h3 with e | e | e <;> simp_all [held]
    · simp_all [held]
theorem sign_lt {m p : Nat} : signAt m p < 128 := by
  have h3 : p % 3 = 0 ∨ p % 3 = 1 ∨ p % 3 = 2 := by omega
  unfold signAt
  split
  · split <;> split <;> decide
  · split
    · rcases h3 with e | e | e <;> simp [e]
    · decide
def stretch (n st sz : Nat) : List UInt8 := (List.range sz).map fun j => UInt8.ofNat (signAt n (st + j))
theorem stretch_length (n st sz : Nat) : (stretch n st sz).length = sz := by simp [stretch]
theorem stretch_held {n st sz : Nat} (h : st + sz ≤ 9) : (stretch n st sz).map hB = (List.range sz).map fun j => n / 2 ^ (8 - (st + j)) % 2 == 1 := by
  unfold stretch
  rw [List.map_map]
  refine List.map_congr_left fun j hj => ?_
  have hj' := List.mem_range.mp hj
  simp only [Function.comp, hB]
  rw [UInt8.toNat_ofNat_of_lt' (Nat.lt_trans sign_lt (by decide)), held_sign (by omega)]
theorem stretch_bits {fx r st sz : Nat} (h : st + sz ≤ 9) (hr : r < 2 ^ sz) (hfx : fx / 2 ^ (9 - st - sz) % 2 ^ sz = 0) :
    (stretch (fx + 2 ^ (9 - st - sz) * r) st sz).map hB = bitsB sz r := by
  rw [stretch_held h]
  unfold bitsB
  refine List.map_congr_left fun j hj => ?_
  have hj' := List.mem_range.mp hj
  rw [show 8 - (st + j) = (9 - st - sz) + (sz - 1 - j) by omega, Nat.pow_add, ← Nat.div_div_eq_div_mul]
  rw [Nat.add_mul_div_left _ _ (Nat.two_pow_pos _)]
  obtain ⟨q, hq⟩ : ∃ q, fx / 2 ^ (9 - st - sz) = 2 ^ sz * q := ⟨fx / 2 ^ (9 - st - sz) / 2 ^ sz, by have := Nat.div_add_mod (fx / 2 ^ (9 - st - sz)) (2 ^ sz); omega⟩
  rw [hq]
  have e : (2 : Nat) ^ sz = 2 ^ (sz - 1 - j) * (2 * 2 ^ j) := by
    rw [← Nat.mul_assoc, ← Nat.pow_succ, ← Nat.pow_add]; congr 1; omega
  rw [e, Nat.mul_assoc, Nat.mul_add_div (Nat.two_pow_pos _)]
  rw [Nat.mul_assoc, Nat.mul_add_mod]
end
/-! Math2 -/
section
set_option maxRecDepth 100000
set_option maxHeartbeats 4000000
theorem and_split (x y : Nat) : x &&& y = 64 * ((x / 64) &&& (y / 64)) + ((x % 64) &&& (y % 64)) := by
  have h1 := Nat.and_div_two_pow (a := x) (b := y) (n := 6)
  have h2 := Nat.and_mod_two_pow (a := x) (b := y) (n := 6)
  have h3 := Nat.div_add_mod (x &&& y) 64
  rw [← h3]
  rw [show (64 : Nat) = 2 ^ 6 from rfl, h1, h2]
def okAnd (sz st : Nat) : Bool := (List.range 64).all fun c =>
  let lw := 2 ^ (9 - st - sz)
  let kp := 4095 - lw * (2 ^ sz - 1)
  (64 * (c &&& (kp / 64)) + lw * (64 * c / lw % 2 ^ sz) == 64 * c) && ((c &&& (kp % 64)) + (lw * (c / lw % 2 ^ sz)) == c)
theorem okA5 : (List.range 5).all (okAnd 5) = true := by decide +kernel
theorem okA6 : (List.range 4).all (okAnd 6) = true := by decide +kernel
theorem okA {sz st c : Nat} (hsz : sz = 5 ∨ sz = 6) (hst : st + sz ≤ 9) (hc : c < 64) : okAnd sz st = true := by
  rcases hsz with rfl | rfl
  · exact List.all_eq_true.mp okA5 st (List.mem_range.mpr (by omega))
  · exact List.all_eq_true.mp okA6 st (List.mem_range.mpr (by omega))
/-- a part of the places of a number, written by low and high six -/
theorem part_split {sz e c d : Nat} (h : e + sz ≤ 9) (hsz : sz = 5 ∨ sz = 6) (hd : d < 64) :
    2 ^ e * ((64 * c + d) / 2 ^ e % 2 ^ sz) = 2 ^ e * (64 * c / 2 ^ e % 2 ^ sz) + 2 ^ e * (d / 2 ^ e % 2 ^ sz) := by
  have e64 : 64 = 2 ^ e * 2 ^ (6 - e) := by rw [← Nat.pow_add, show e + (6 - e) = 6 by omega]
  have hx : d / 2 ^ e < 2 ^ (6 - e) := by
    rw [Nat.div_lt_iff_lt_mul (Nat.two_pow_pos _), Nat.mul_comm, ← e64]; exact hd
  have h1 : (64 * c + d) / 2 ^ e = 2 ^ (6 - e) * c + d / 2 ^ e := by
    rw [e64, Nat.mul_assoc, Nat.mul_add_div (Nat.two_pow_pos _)]
  have h2 : 64 * c / 2 ^ e = 2 ^ (6 - e) * c := by
    rw [e64, Nat.mul_assoc, Nat.mul_div_cancel_left _ (Nat.two_pow_pos _)]
  rw [h1, h2, ← Nat.mul_add]
  congr 1
  generalize d / 2 ^ e = x at hx ⊢
  by_cases hle : 6 - e ≤ sz
  · have eS : 2 ^ sz = 2 ^ (6 - e) * 2 ^ (sz - (6 - e)) := by
      rw [← Nat.pow_add, show 6 - e + (sz - (6 - e)) = sz by omega]
    have hlt : x < 2 ^ sz := Nat.lt_of_lt_of_le hx (Nat.pow_le_pow_right (by decide) hle)
    rw [Nat.mod_eq_of_lt hlt, eS, Nat.mul_mod_mul_left, Nat.mod_mul, Nat.mul_add_mod, Nat.mod_eq_of_lt hx, Nat.mul_add_div (Nat.two_pow_pos _), Nat.div_eq_of_lt hx, Nat.add_zero, Nat.add_comm]
  · have eM : 2 ^ (6 - e) = 2 ^ sz * 2 ^ (6 - e - sz) := by
      rw [← Nat.pow_add, show sz + (6 - e - sz) = 6 - e by omega]
    rw [eM, Nat.mul_assoc, Nat.mul_add_mod, Nat.mul_mod_right, Nat.zero_add]
theorem and_keep {sz st b : Nat} (hsz : sz = 5 ∨ sz = 6) (hst : st + sz ≤ 9) (hb : b < 4096) :
    (b &&& (4095 - 2 ^ (9 - st - sz) * (2 ^ sz - 1))) + 2 ^ (9 - st - sz) * (b / 2 ^ (9 - st - sz) % 2 ^ sz) = b := by
  have h1 := okA hsz hst (c := b / 64) (by omega)
  have h2 := List.all_eq_true.mp h1 (b / 64) (List.mem_range.mpr (by omega))
  have h3 := List.all_eq_true.mp h1 (b % 64) (List.mem_range.mpr (by omega))
  simp only [Bool.and_eq_true, beq_iff_eq] at h2 h3
  have h4 := part_split (e := 9 - st - sz) (sz := sz) (c := b / 64) (d := b % 64) (by omega) hsz (by omega)
  rw [Nat.div_add_mod] at h4
  rw [h4, and_split]
  have := Nat.div_add_mod b 64
  omega
theorem and_kind {n : Nat} (h : n < 65536) : n &&& 61440 = n / 4096 * 4096 := by
  have h1 := Nat.and_div_two_pow (a := n) (b := 61440) (n := 12)
  have h2 := Nat.and_mod_two_pow (a := n) (b := 61440) (n := 12)
  have h3 := Nat.div_add_mod (n &&& 61440) 4096
  have e1 : (61440 : Nat) / 2 ^ 12 = 2 ^ 4 - 1 := by decide
  have e2 : (61440 : Nat) % 2 ^ 12 = 0 := by decide
  rw [e1, Nat.and_two_pow_sub_one_eq_mod] at h1
  rw [e2, Nat.and_zero] at h2
  simp only [Nat.reducePow] at h1 h2
  omega
theorem and_mode (n : Nat) : n &&& 4095 = n % 4096 := Nat.and_two_pow_sub_one_eq_mod n 12
theorem part_low {sz e n : Nat} (h : e + sz ≤ 9) : n / 2 ^ e % 2 ^ sz = n % 4096 / 2 ^ e % 2 ^ sz := by
  have e12 : 4096 = 2 ^ e * 2 ^ (12 - e) := by rw [← Nat.pow_add, show e + (12 - e) = 12 by omega]
  rw [e12, Nat.mod_mul_right_div_self, Nat.mod_mod_of_dvd _ (Nat.pow_dvd_pow 2 (by omega))]
/-- what stands outside of the stretch -/
theorem rest_eq {sz st n : Nat} (hsz : sz = 5 ∨ sz = 6) (hst : st + sz ≤ 9) (hn : n < 65536) :
    (n &&& 61440) + ((n &&& 4095) &&& (4095 - 2 ^ (9 - st - sz) * (2 ^ sz - 1))) + 2 ^ (9 - st - sz) * (n / 2 ^ (9 - st - sz) % 2 ^ sz) = n := by
  rw [part_low (by omega), and_mode, and_kind hn]
  have := and_keep (b := n % 4096) hsz hst (by omega)
  omega
/-! words turned about -/
theorem swp_flat {sz : Nat} (hz : 0 < sz) : ∀ (ls : List (List UInt8)), (∀ l ∈ ls, l.length = sz) → swp ls.flatten.toArray sz = (ls.map List.reverse).flatten.toArray := by
  intro ls hl
  have hlen : ∀ (ls : List (List UInt8)), (∀ l ∈ ls, l.length = sz) → ls.flatten.length = ls.length * sz := by
    intro ls
    induction ls with
    | nil => simp
    | cons a ls ih =>
      intro h
      rw [List.flatten_cons, List.length_append, ih fun l q => h l (.tail _ q), h a (.head _), List.length_cons, Nat.succ_mul]; omega
  have hget : ∀ (ls : List (List UInt8)), (∀ l ∈ ls, l.length = sz) → ∀ q r, r < sz → ls.flatten.getD (q * sz + r) 0 = (ls.getD q []).getD r 0 := by
    intro ls
    induction ls with
    | nil => intro _ q r _; simp
    | cons a ls ih =>
      intro h q r hr
      have ha := h a (.head _)
      rw [List.flatten_cons]
      cases q with
      | zero => simp [List.getD_eq_getElem?_getD, List.getElem?_append, ha, hr]
      | succ q =>
        have := ih (fun l q => h l (.tail _ q)) q r hr
        have e : (q + 1) * sz + r - sz = q * sz + r := by rw [Nat.succ_mul]; omega
        have e2 : ¬ (q + 1) * sz + r < sz := by rw [Nat.succ_mul]; omega
        simp only [List.getD_eq_getElem?_getD, List.getElem?_append, ha, e, e2, if_false, List.getElem?_cons_succ] at this ⊢
        exact this
  have hl' : ∀ l ∈ ls.map List.reverse, l.length = sz := by
    intro l h
    obtain ⟨x, hx, rfl⟩ := List.mem_map.mp h
    rw [List.length_reverse]; exact hl x hx
  apply Array.ext
  · simp only [swp, List.size_toArray, Array.size_map, Array.size_range]
    rw [hlen _ hl, hlen _ hl', List.length_map]
  intro i hi hi'
  have hi2 : i < ls.length * sz := by simpa [swp, hlen _ hl] using hi
  have hq : i / sz < ls.length := Nat.div_lt_of_lt_mul (by rw [Nat.mul_comm]; exact hi2)
  have hr : i % sz < sz := Nat.mod_lt _ hz
  have e1 : (swp ls.flatten.toArray sz)[i] = swAt ls.flatten.toArray sz i := by simp [swp]
  have e2 : (ls.map List.reverse).flatten.toArray[i] = (ls.map List.reverse).flatten.getD i 0 := by
    have : i < (ls.map List.reverse).flatten.length := by rw [hlen _ hl', List.length_map]; exact hi2
    rw [List.getElem_toArray, List.getD_eq_getElem?_getD, List.getElem?_eq_getElem this, Option.getD_some]
  rw [e1, e2]
  unfold swAt
  have e3 : ∀ k, ls.flatten.toArray.getD k 0 = ls.flatten.getD k 0 := by
    intro k; simp [Array.getD_eq_getD_getElem?, List.getD_eq_getElem?_getD]
  rw [e3, hget ls hl _ _ (by omega)]
  have e4 : i = i / sz * sz + i % sz := by rw [Nat.mul_comm]; exact (Nat.div_add_mod i sz).symm
  rw [show (ls.map List.reverse).flatten.getD i 0 = (ls.map List.reverse).flatten.getD (i / sz * sz + i % sz) 0 by rw [← e4], hget _ hl' _ _ hr]
  have hlq := hl ls[i / sz] (List.getElem_mem hq)
  have hx : sz - 1 - i % sz < ls[i / sz].length := by omega
  simp [List.getD_eq_getElem?_getD, hq, List.getElem?_reverse, hlq, hr, List.getElem?_eq_getElem hx]
/-! the text of filemode -/
theorem join_one : ∀ (cs : List Nat), Txt.join (Str.ofString "") (cs.map one) = ⟨cs.toArray⟩ := by
  intro cs
  show Builtin.Str.glued (Str.ofString "") (cs.map one) = _
  rw [StrLaws.glued_eq_join]
  induction cs with
  | nil => rfl
  | cons a cs ih =>
    cases cs with
    | nil => rfl
    | cons b cs =>
      rw [List.map_cons, List.map_cons, join_cons_cons, ← List.map_cons (f := one), ih]
      have e : one a ++ Str.ofString "" = one a := by
        show (⟨(#[a] : Array Nat) ++ (Str.ofString "").cps⟩ : Str) = ⟨#[a]⟩
        rfl
      rw [e]
      show (⟨(#[a] : Array Nat) ++ (b :: cs).toArray⟩ : Str) = ⟨(a :: b :: cs).toArray⟩
      simp
end
/-! Math3 -/
section
set_option maxRecDepth 100000
set_option maxHeartbeats 4000000
theorem low_eq {st sz : Nat} (h : st + sz ≤ 9) : 512 / 2 ^ (st + sz) = 2 ^ (9 - st - sz) := by
  have e : (512 : Nat) = 2 ^ (9 - st - sz) * 2 ^ (st + sz) := by
    rw [← Nat.pow_add, show 9 - st - sz + (st + sz) = 9 by omega]
  rw [e, Nat.mul_div_cancel _ (Nat.two_pow_pos _)]
theorem fx_facts {md sz st : Nat} (hsz : sz = 5 ∨ sz = 6) (hst : st + sz ≤ 9) (hmd : md < 65536) :
    2 ^ (9 - st - sz) * (md / 2 ^ (9 - st - sz) % 2 ^ sz) ≤ md ∧
    (md - 2 ^ (9 - st - sz) * (md / 2 ^ (9 - st - sz) % 2 ^ sz)) / 2 ^ (9 - st - sz) % 2 ^ sz = 0 ∧
    ∀ r, r < 2 ^ sz → (md - 2 ^ (9 - st - sz) * (md / 2 ^ (9 - st - sz) % 2 ^ sz)) + 2 ^ (9 - st - sz) * r < 65536 ∧
      ((md - 2 ^ (9 - st - sz) * (md / 2 ^ (9 - st - sz) % 2 ^ sz)) + 2 ^ (9 - st - sz) * r) / 2 ^ (9 - st - sz) % 2 ^ sz = r := by
  have hlw : 0 < 2 ^ (9 - st - sz) := Nat.two_pow_pos _
  have hS : 0 < 2 ^ sz := Nat.two_pow_pos _
  have eM : 2 ^ (9 - st - sz) * 2 ^ sz * 2 ^ (7 + st) = 65536 := by
    rw [← Nat.pow_add, ← Nat.pow_add, show 9 - st - sz + sz + (7 + st) = 16 by omega]
  generalize 2 ^ (9 - st - sz) = lw at *
  generalize 2 ^ sz = S at *
  generalize 2 ^ (7 + st) = M at *
  have d1 := Nat.div_add_mod md lw
  have d2 := Nat.div_add_mod (md / lw) S
  have d3 := Nat.mod_lt md hlw
  have hmul : lw * (md / lw) = lw * (S * (md / lw / S)) + lw * (md / lw % S) := by rw [← Nat.mul_add, d2]
  have ef : md - lw * (md / lw % S) = lw * (S * (md / lw / S)) + md % lw := by omega
  have ha : md / lw / S < M := by
    rw [Nat.div_div_eq_div_mul, Nat.div_lt_iff_lt_mul (Nat.mul_pos hlw hS), Nat.mul_comm, eM]; exact hmd
  refine ⟨by omega, ?_, fun r hr => ?_⟩
  · rw [ef, Nat.mul_add_div hlw, Nat.div_eq_of_lt d3, Nat.add_zero, Nat.mul_mod_right]
  · have e2 : lw * (S * (md / lw / S)) + md % lw + lw * r = lw * (S * (md / lw / S) + r) + md % lw := by rw [Nat.mul_add]; omega
    rw [ef, e2]
    refine ⟨?_, ?_⟩
    · have h1 : S * (md / lw / S) + r + 1 ≤ S * M := by
        have : S * (md / lw / S) + S ≤ S * M := by rw [← Nat.mul_succ]; exact Nat.mul_le_mul_left _ ha
        omega
      have h2 : lw * (S * (md / lw / S) + r + 1) ≤ lw * (S * M) := Nat.mul_le_mul_left _ h1
      rw [← Nat.mul_assoc, eM, Nat.mul_add, Nat.mul_one] at h2
      omega
    · rw [Nat.mul_add_div hlw, Nat.div_eq_of_lt d3, Nat.add_zero, Nat.mul_add_mod, Nat.mod_eq_of_lt hr]
theorem low_le {st sz : Nat} (hsz : sz = 5 ∨ sz = 6) (hst : st + sz ≤ 9) : 2 ^ (9 - st - sz) * (2 ^ sz - 1) ≤ 4095 ∧ 0 < 2 ^ (9 - st - sz) ∧ 2 ^ (9 - st - sz) ≤ 16 := by
  have h1 : 2 ^ (9 - st - sz) * 2 ^ sz ≤ 2 ^ 9 := by
    rw [← Nat.pow_add]; exact Nat.pow_le_pow_right (by decide) (by omega)
  have h2 : 2 ^ (9 - st - sz) * (2 ^ sz - 1) ≤ 2 ^ (9 - st - sz) * 2 ^ sz := Nat.mul_le_mul_left _ (Nat.sub_le _ _)
  have h3 : 2 ^ (9 - st - sz) ≤ 2 ^ 4 := Nat.pow_le_pow_right (by decide) (by omega)
  exact ⟨Nat.le_trans (Nat.le_trans h2 h1) (by decide), Nat.two_pow_pos _, h3⟩
/-- a turn's end: what is left of the mode, and the worth of the signs, turned about -/
theorem step_eq {sz st fx r : Nat} {kp : Int} (hsz : sz = 5 ∨ sz = 6) (hst : st + sz ≤ 9) (hr : r < 2 ^ sz) (hfx : fx / 2 ^ (9 - st - sz) % 2 ^ sz = 0)
    (hn : fx + 2 ^ (9 - st - sz) * r < 65536) (hq : (fx + 2 ^ (9 - st - sz) * r) / 2 ^ (9 - st - sz) % 2 ^ sz = r) (hkp : kp = ((2 ^ (9 - st - sz) : Nat) : Int) * (2 ^ sz - 1)) :
    Builtin.bitAnd ((fx + 2 ^ (9 - st - sz) * r : Nat) : Int) 61440 + Builtin.bitAnd (Builtin.bitAnd ((fx + 2 ^ (9 - st - sz) * r : Nat) : Int) 4095) (4095 - kp) +
      ((worthTo (movedOf (stretch (fx + 2 ^ (9 - st - sz) * r) st sz)).toArray st (movedOf (stretch (fx + 2 ^ (9 - st - sz) * r) st sz)).toArray.size : Nat) : Int) = ((fx + 2 ^ (9 - st - sz) * nextR sz r : Nat) : Int) := by
  obtain ⟨hl1, hl2, hl3⟩ := low_le hsz hst
  have hrest := rest_eq (n := fx + 2 ^ (9 - st - sz) * r) hsz hst hn
  rw [hq] at hrest
  have e1 : (4095 : Int) - kp = ((4095 - 2 ^ (9 - st - sz) * (2 ^ sz - 1) : Nat) : Int) := by
    have h2 : (1 : Nat) ≤ 2 ^ sz := Nat.one_le_two_pow
    rw [hkp, Int.natCast_sub hl1, Int.natCast_mul, Int.natCast_sub h2]
    norm_cast
  have e2 : (61440 : Int) = ((61440 : Nat) : Int) := rfl
  have e3 : (4095 : Int) = ((4095 : Nat) : Int) := rfl
  rw [e1, e2, e3, bitAnd_nat, bitAnd_nat, bitAnd_nat]
  have hlen : (stretch (fx + 2 ^ (9 - st - sz) * r) st sz).length = sz := stretch_length ..
  have h3 : 3 ≤ (stretch (fx + 2 ^ (9 - st - sz) * r) st sz).length := by rw [hlen]; rcases hsz with rfl | rfl <;> decide
  have hw : worthTo (movedOf (stretch (fx + 2 ^ (9 - st - sz) * r) st sz)).toArray st (movedOf (stretch (fx + 2 ^ (9 - st - sz) * r) st sz)).toArray.size = 2 ^ (9 - st - sz) * nextR sz r := by
    rw [List.size_toArray, worth_val _ (Nat.le_refl _), List.take_length, movedB_eq h3, stretch_bits hst hr hfx, val_next hsz hst hr, low_eq hst]
  rw [hw]
  norm_cast
  omega
end
/-! Joined -/
section
set_option maxRecDepth 100000
set_option maxHeartbeats 4000000
theorem joined_from : ∀ (ls : List (List UInt8)) (k : Nat) (out : Array UInt8),
    ((ls.map List.toArray).zipIdx k).foldl (fun out (p : Array UInt8 × Nat) => (if p.2 > 0 then out ++ (#[] : Array UInt8) else out) ++ p.1) out = out ++ ls.flatten.toArray
  | [], _, out => by simp
  | l :: ls, k, out => by
    rw [List.map_cons, List.zipIdx_cons, List.foldl_cons, joined_from ls]
    have e : (if k > 0 then out ++ (#[] : Array UInt8) else out) = out := by split <;> simp
    show (if k > 0 then out ++ (#[] : Array UInt8) else out) ++ l.toArray ++ ls.flatten.toArray = _
    rw [e]; simp
theorem joined_flat (ls : List (List UInt8)) : Builtin.Bytes.joined #[] (ls.map List.toArray) = ls.flatten.toArray := by
  have := joined_from ls 0 #[]
  rw [Array.empty_append] at this
  exact this
theorem sizes_from : ∀ (ls : List (List UInt8)) (n : Nat), (ls.map List.toArray).foldl (fun n b => n + b.size) n = n + ls.flatten.length
  | [], n => by simp
  | l :: ls, n => by
    rw [List.map_cons, List.foldl_cons, sizes_from ls]; simp; omega
theorem sizes_flat (ls : List (List UInt8)) : (ls.map List.toArray).toArray.foldl (fun n b => n + b.size) 0 = ls.flatten.length := by
  rw [List.foldl_toArray, sizes_from]; omega
theorem flat_len {sz : Nat} : ∀ {ls : List (List UInt8)}, (∀ l ∈ ls, l.length = sz) → ls.flatten.length = ls.length * sz := by
  intro ls
  induction ls with
  | nil => simp
  | cons a ls ih =>
    intro h
    rw [List.flatten_cons, List.length_append, ih fun l q => h l (.tail _ q), h a (.head _), List.length_cons, Nat.succ_mul]; omega
end
/-! CompE -/
section
set_option maxRecDepth 100000
set_option maxHeartbeats 4000000
section
variable {prog : Program} {w : World} {A : Around} {E : Value → Shared → Prop} {env : Env} {s₂ : Shared}
/-- a comprehension as an expression: its block walked -/
theorem compE_of {h₀ : Heap} {L : Addr} {m : Str → Option Value} {news : List (Addr × Obj)} {I : Addr} {fp : List Addr} {n : Nat} {P : Nat → Value → Prop} {St : Nat → Heap → Prop} {scope : Scope} {x : Str} {elt : Expr} {Q : Value → Shared → Prop} {G : Value → Value → Prop}
    (F : Fr h₀ L s₂.heap m) (N : News h₀ L s₂.heap news) (Wk : Walks prog w A I fp [I] n P St) (hsz : n ≤ sizeLine) (hst : St 0 s₂.heap) (hfp : ∀ b ∈ fp, b < s₂.heap.objs.size)
    (hI : h₀.get? I = none) (hIL : @Ne Nat I L) (off : Off I news)
    (he : ∀ C i v s₃ m₃ E', P i v → s₃.heap.Ns C m₃ → m₃ x = some v → KpBut [I] s₂.heap s₃.heap → wpAny (model prog w) A (eval elt (compEnv scope C env)) (fun y s₄ => G v y ∧ Keeps s₃ s₄) E' s₃)
    (h : ∀ D h' tk ys nn vs, vs.length = n → (∀ j v, vs[j]? = some v → P j v) → Paired G vs ys → Fr h₀ L h' m →
      News h₀ L h' ((D, W.listOf ys.toArray nn) :: news) → Q (.ref D) { s₂ with heap := h', toks := tk }) :
    CompPost prog w A env scope x [] elt Q (.ref I) s₂ := by
  refine ⟨fun _ => true, G, I, fp, [I], n, P, St, rfl, Wk, hsz, hst, hfp, quiet_nil he, ?_⟩
  intro D h' tk ys vs hD hl hpl hlen hP hF hk
  obtain ⟨nn, hp⟩ := hpl
  have ef : vs.filter (fun _ => true) = vs := by simp
  rw [ef] at hF
  have hDL : @Ne Nat D L := by
    rintro rfl
    obtain ⟨oL, _, _, hL, _⟩ := F.ns
    rw [hD] at hL; cases hL
  have hD0 : h₀.get? D = none := by
    cases q : h₀.get? D with
    | none => rfl
    | some o => have := F.keep _ _ q; rw [hD] at this; cases this
  have F' : Fr h₀ L h' m := fr_but F hk (nin1 (Ne.symm hIL)) (all1 hI)
  refine h D h' tk ys.toList nn vs hlen hP hF F' ?_
  refine news_cons (by rw [Array.toArray_toList]; exact hp) hDL hD0 fun p hp => ?_
  obtain ⟨g1, g2, g3⟩ := N p hp
  exact ⟨hk _ _ (off.nin p hp) g1, g2, g3⟩
theorem compE_str {s : Shared} {h₀ : Heap} {L : Addr} {m : Str → Option Value} {news : List (Addr × Obj)} {y : Str} {t : Tok} {scope : Scope} {x : Str} {elt : Expr} {Q : Value → Shared → Prop} {G : Nat → Value → Prop} (hh : A.handled = none)
    (F : Fr h₀ L s.heap m) (N : News h₀ L s.heap news) (hsz : y.cps.size ≤ sizeLine)
    (he : ∀ C c u s₃ m₃ E', s₃.heap.Ns C m₃ → m₃ x = some (.str ⟨#[c]⟩ u) → Kp s.heap s₃.heap → wpAny (model prog w) A (eval elt (compEnv scope C env)) (fun z s₄ => G c z ∧ Keeps s₃ s₄) E' s₃)
    (h : ∀ D h' tk ys nn, Paired G y.cps.toList ys → Fr h₀ L h' m → News h₀ L h' ((D, W.listOf ys.toArray nn) :: news) → Q (.ref D) { s with heap := h', toks := tk }) :
    wpAny (model prog w) A (pyIter (.str y t)) (CompPost prog w A env scope x [] elt Q) E s := by
  have hL := fr_lt F
  refine wpAny_pyIter_str fun o St W hst => ?_
  refine compE_of (s₂ := ⟨_, _, _, _, _⟩) (G := fun v z => ∃ (c : Nat) (u : Tok), v = .str ⟨#[c]⟩ u ∧ G c z) (F.push _) (N.pushKeep _) (W A hh) hsz hst ?_ (fresh_none F (Nat.le_refl _)) (by omega) ?_ ?_ ?_
  · intro b hb
    rw [Heap.size_push]
    rcases List.mem_cons.mp hb with rfl | hb
    · exact Nat.lt_succ_self _
    · cases hb
  · intro b hb
    obtain ⟨p, hp, rfl⟩ := List.mem_map.mp hb
    exact Nat.ne_of_lt (news_lt N p hp)
  · intro C i v s₃ m₃ E' hP hn hm hk
    obtain ⟨c, u, _, rfl⟩ := hP
    exact wpAny_mono (he C c u s₃ m₃ E' hn hm fun b o q => hk b o (nin1 (Nat.ne_of_lt (Heap.lt_size q))) (Heap.get?_push_of_some _ q)) (fun z s₄ q => ⟨⟨c, u, rfl, q.1⟩, q.2⟩) fun _ _ e => e
  · intro D h' tk ys nn vs hlen hP hF F' N'
    refine h D h' tk ys nn ?_ F' N'
    have e : ∀ (cs : List Nat) (vs ys : List Value), vs.length = cs.length → (∀ (j : Nat) (v : Value), vs[j]? = some v → ∃ (c : Nat) (u : Tok), cs[j]? = some c ∧ v = Value.str ⟨#[c]⟩ u) → Paired (fun v z => ∃ (c : Nat) (u : Tok), v = Value.str ⟨#[c]⟩ u ∧ G c z) vs ys → Paired G cs ys := by
      intro cs
      induction cs with
      | nil =>
        intro vs ys h1 h2 h3
        cases vs with
        | nil => cases h3; exact .nil
        | cons _ _ => cases h1
      | cons c cs ih =>
        intro vs ys h1 h2 h3
        cases h3 with
        | nil => cases h1
        | cons hq hr =>
          obtain ⟨c1, u1, e1, hg⟩ := hq
          obtain ⟨c2, u2, e2, e3⟩ := h2 0 _ rfl
          cases e2
          rw [e1] at e3
          injection e3 with e4 _
          injection e4 with e4
          injection e4 with e4
          injection e4 with e4
          subst e4
          exact .cons hg (ih _ _ (by simpa using h1) (fun j v q => h2 (j + 1) v (by simpa using q)) hr)
    exact e y.cps.toList vs ys (by simpa using hlen) (fun j v q => by
      obtain ⟨c, u, h1, h2⟩ := hP j v q
      exact ⟨c, u, by simpa using h1, h2⟩) hF
theorem ints_of_nats {cs : List Nat} {ys : List Value} (h : Paired (fun (c : Nat) z => ∃ t, z = .int (c : Int) t) cs ys) : IntsAre ys (cs.map Int.ofNat) := by
  induction h with
  | nil => exact .nil
  | cons h1 _ ih =>
    obtain ⟨t, rfl⟩ := h1
    exact .cons _ _ ih
/-- what stands in a stretch of the row -/
theorem slice_codes {n st sz : Nat} (h : st + sz ≤ 9) : (Txt.slice (⟨(codes n).toArray⟩ : Str) (some (1 + (st : Int))) (some (1 + (st : Int) + (sz : Int)))).cps.toList = (List.range sz).map fun j => signAt n (st + j) := by
  have e := slice_closes (x := ⟨(codes n).toArray⟩) (i := 1 + (st : Int)) (j := 1 + (st : Int) + (sz : Int)) ⟨by omega, by omega, by
    show _ ≤ (((codes n).toArray.toList.length : Nat) : Int)
    rw [List.toList_toArray, codes_length]; omega⟩
  rw [eq_of_beq e]
  show ((codes n).drop (1 + (st : Int)).toNat).take (1 + (st : Int) + (sz : Int) - (1 + (st : Int))).toNat = _
  rw [show (1 + (st : Int)).toNat = st + 1 by omega, show (1 + (st : Int) + (sz : Int) - (1 + (st : Int))).toNat = sz by omega]
  apply List.ext_getElem?
  intro j
  by_cases hj : j < sz
  · rw [List.getElem?_take_of_lt hj, List.getElem?_drop, codes_get (by omega), List.getElem?_map, List.getElem?_range hj, show st + 1 + j = (st + j) + 1 by omega]
    rfl
  · rw [List.getElem?_eq_none (by rw [List.length_take]; omega), List.getElem?_eq_none (by rw [List.length_map, List.length_range]; omega)]
theorem octets_stretch {n st sz : Nat} : ((((List.range sz).map fun j => signAt n (st + j)).map Int.ofNat).map fun k => k.toNat.toUInt8).toArray = (stretch n st sz).toArray := by
  congr 1
  rw [List.map_map, List.map_map]
  rfl
end
end
/-! Byt5 -/
section
set_option maxRecDepth 100000
set_option maxHeartbeats 4000000
theorem look_bytes_len : typeLookup (.type "bytes") "__len__" = pure (some (.builtin "bytes.__len__")) := by rw [typeLookup_type, builtinLookup_eq_fast]; kernel_rfl
theorem items_ints {b : Array UInt8} {acc : Array Value} (h : ItemsOf (fun i v => ∃ (c : UInt8) (u : Tok), b[i]? = some c ∧ v = .int (c.toNat : Int) u) acc b.size) : IntsAre acc.toList (KBw.bInts b) := by
  obtain ⟨h1, h2⟩ := h
  have key : ∀ (l : List UInt8) (vs : List Value), vs.length = l.length → (∀ (j : Nat) (v : Value), vs[j]? = some v → ∃ (c : UInt8) (u : Tok), l[j]? = some c ∧ v = .int (c.toNat : Int) u) → IntsAre vs (l.map fun c => (c.toNat : Int)) := by
    intro l
    induction l with
    | nil =>
      intro vs e _
      cases vs with
      | nil => exact .nil
      | cons _ _ => cases e
    | cons c l ih =>
      intro vs e q
      cases vs with
      | nil => cases e
      | cons v vs =>
        obtain ⟨c', u, e1, rfl⟩ := q 0 _ rfl
        cases e1
        exact .cons _ _ (ih vs (by simpa using e) fun j v hv => q (j + 1) v (by simpa using hv))
  exact key b.toList acc.toList (by simpa using h1) fun j v hv => by
    obtain ⟨c, u, e1, e2⟩ := h2 j v (by simpa using hv)
    exact ⟨c, u, by simpa using e1, e2⟩
section
variable {prog : Program} {w : World} {A : Around} {E : Value → Shared → Prop} {s : Shared}
theorem extend_bytes {R : Result → Shared → Prop} (hh : A.handled = none) (b : Array UInt8) (t : Tok) (S : Addr) (res : Value) (c₀ : Nat) (hS : s.heap.get? S = some { cls := .type "list", data := .seq #[] c₀ }) (hn : b.size ≤ sizeLine)
    (hR : ∀ h' tk acc' c', (∀ d o, d ≠ S → s.heap.get? d = some o → h'.get? d = some o) → h'.get? S = some { cls := .type "list", dict := none, data := .seq acc' c', slots := #[] } →
      IntsAre acc'.toList (KBw.bInts b) → R (.ok (.ret res)) { s with heap := h', toks := tk }) :
    wpAny (model prog w) A.in1 (Builtin.List.listExtendWith (.ref S) (.bytes b t) res)
      (fun fin s' => match fin with | .done f => R (.ok f) s' | .again c' => c'.quiet = true ∧ codeAny (model prog w) A c' R s') (fun e s' => R (.error e) s') s := by
  have hSI : S ≠ s.heap.objs.size := Nat.ne_of_lt (Heap.lt_size hS)
  have hSf : S ∉ [s.heap.objs.size] := fun hm => hSI (List.mem_singleton.mp hm)
  unfold Builtin.List.listExtendWith
  refine wpAny_bind (wpAny_typeOf (T := "bytes") (v := .bytes b t) rfl ?_)
  have h1 : Builtin.List.listSameRef (.ref S) (.bytes b t) = false := rfl
  have h2 : (Value.type "bytes" == Value.type "list") = false := by decide
  have h3 : (Value.type "bytes" == Value.type "tuple") = false := by decide
  simp only [h1, h2, h3, Bool.or_false, Bool.false_eq_true, if_false]
  refine wpAny_bind (KBw.pyIter_bytes ?_)
  refine wpAny_bind (wpAny_holding ?_)
  unfold Builtin.List.listLengthHint
  refine wpAny_bind (wpAny_specialOf (T := "bytes") (v := .bytes b t) rfl look_bytes_len ?_)
  wp_delta
  refine wpAny_bind (wpAny_isInstance (T := "bytes") (v := .bytes b t) (b := true) rfl (by rw [isSubtype_type]; kernel_rfl) ?_)
  show wpAny _ _ (typeOf (Value.bytes b t) >>= _) _ _ _
  refine wpAny_bind (wpAny_typeOf (T := "bytes") (v := .bytes b t) rfl ?_)
  refine wpAny_pure ?_
  rw [if_neg (by decide)]
  have W := KBw.walks (prog := prog) (w := w) (A := A.in1) hh s.heap.objs.size b t
  refine wpAny_pure ⟨plainId_quiet F.plain_extend_loop _, codeAny_extend_loopS W.toS hn _ hSf _ b.size 0 _ _ _ rfl (Nat.zero_le _) ⟨_, Heap.get?_push_size _ rfl, rfl, rfl⟩ (Heap.get?_push_of_some _ hS) (ItemsOf.nil _) fun s' acc' c' hm hS' hacc => ?_⟩
  rw [Moved.eq_with hm]
  refine hR s'.heap s'.toks acc' c' (fun d ob hb e => hm.heap d ob (fun hmem => ?_) (Heap.get?_push_of_some _ e)) hS' (items_ints hacc)
  rcases List.mem_cons.mp hmem with e' | hmem
  · exact hb e'
  · exact absurd (Heap.lt_size e) (by rw [List.mem_singleton.mp hmem]; exact Nat.lt_irrefl _)
theorem init_bytes {R : Result → Shared → Prop} (hh : A.handled = none) (b : Array UInt8) (t : Tok) (S : Addr) (hS : s.heap.get? S = some { cls := .type "list", data := .seq #[] }) (hn : b.size ≤ sizeLine)
    (hR : ∀ h' tk acc' c', (∀ d o, d ≠ S → s.heap.get? d = some o → h'.get? d = some o) → h'.get? S = some { cls := .type "list", dict := none, data := .seq acc' c', slots := #[] } →
      IntsAre acc'.toList (KBw.bInts b) → R (.ok (.ret .none)) { s with heap := h', toks := tk }) :
    wpAny (model prog w) A.in1 (Builtin.«list.__init__» ⟨[.ref S, .bytes b t], []⟩)
      (fun fin s' => match fin with | .done f => R (.ok f) s' | .again c' => c'.quiet = true ∧ codeAny (model prog w) A c' R s') (fun e s' => R (.error e) s') s := by
  show wpAny _ _ (do let old ← Builtin.List.listItems (.ref S); Builtin.List.listUpdate (.ref S) (fun _ => #[]); letGo old.toList.reverse; Builtin.List.listExtendWith (.ref S) (.bytes b t) .none) _ _ s
  refine wpAny_bind ?_
  unfold Builtin.List.listItems
  refine wpAny_bind (wpAny_seqItems hS rfl (wpAny_pure ?_))
  show wpAny _ _ (updateSeq S (fun _ => #[]) >>= fun _ => letGo (#[] : Array Value).toList.reverse >>= fun _ => Builtin.List.listExtendWith (.ref S) (.bytes b t) .none) _ _ s
  refine wpAny_bind (wpAny_updateSeq hS rfl ?_)
  have hS₂ := Heap.get?_update_self (Obj.mapSeq (fun _ => (#[] : Array Value))) hS rfl
  refine wpAny_bind (wpAny_letGo ?_)
  refine extend_bytes hh b t S .none _ hS₂ hn fun h' tk acc' c' hk hS' hacc => ?_
  exact hR h' tk acc' c' (fun d o hb e => hk d o hb ((Heap.get?_update_other _ _ (Ne.symm hb)).trans e)) hS' hacc
/-- list(bytes) -/
theorem call_list_bytes {b : Array UInt8} {t : Tok} {Q : Value → Shared → Prop} (hh : A.handled = none) (hn : b.size ≤ sizeLine)
    (hQ : ∀ h' tk vs c, Kp s.heap h' → h'.get? s.heap.objs.size = some (W.listOf (List.toArray vs) c) → IntsAre vs (KBw.bInts b) → Q (.ref s.heap.objs.size) { s with heap := h', toks := tk }) :
    wpAny (model prog w) A (call (.type "list") [.bytes b t]) Q E s := by
  refine callType_codes (Q₁ := fun obj s₁ => obj = .ref s.heap.objs.size ∧ s₁ = { s with heap := s.heap.push { cls := .type "list", data := .seq #[] } }) F.called_list (F.typeCall_list_1 _) F.entry_list_init
    (code_list_new _ ⟨rfl, rfl⟩) fun obj s₁ h₁ => ?_
  obtain ⟨rfl, rfl⟩ := h₁
  have hS : (s.heap.push { cls := .type "list", data := .seq #[] }).get? s.heap.objs.size = some { cls := .type "list", data := .seq #[] } := Heap.get?_push_size _ rfl
  refine ⟨⟨_, hS, rfl⟩, F.args_list_init_2 _ _, init_bytes (A := A.in1) hh b t _ hS hn fun h' tk acc' c' hk hS' hacc => ?_⟩
  exact ⟨rfl, hQ h' tk acc'.toList c' (fun d o e => hk d o (Nat.ne_of_lt (Heap.lt_size e)) (Heap.get?_push_of_some _ e)) (by rw [Array.toArray_toList]; exact hS') hacc⟩
end
end
/-! Comp3 -/
section
set_option maxRecDepth 100000
set_option maxHeartbeats 4000000
theorem compTurn_two (elt t0 i0 t1 i1 : Expr) (scope : Scope) (pos : Pos) (it acc : Value) (env : Env) :
    compTurn (.ListComp elt [⟨t0, i0, [], 0⟩, ⟨t1, i1, [], 0⟩] scope pos) 0 it acc env = (standAt i0.pos >>= fun _ => pyNext it >>= fun r => match r with
      | none => pure (.done .next)
      | some v => letOwnedTupleGo t0 it v >>= fun _ => assign t0 env v >>= fun _ =>
        eval i1 env >>= fun x => standAt i1.pos >>= fun _ => foldedSetIterable i1 env x >>= fun x => holding [x] (pyIter x) >>= fun y =>
          runOwn (.compStart (.ListComp elt [⟨t0, i0, [], 0⟩, ⟨t1, i1, [], 0⟩] scope pos) 1 y acc env) env >>= fun _ =>
          again (.compLoop (.ListComp elt [⟨t0, i0, [], 0⟩, ⟨t1, i1, [], 0⟩] scope pos) 0 it acc env)) := by rfl
theorem compTurn_last (elt t0 i0 t1 i1 : Expr) (scope : Scope) (pos : Pos) (it acc : Value) (env : Env) :
    compTurn (.ListComp elt [⟨t0, i0, [], 0⟩, ⟨t1, i1, [], 0⟩] scope pos) 1 it acc env = (standAt i1.pos >>= fun _ => pyNext it >>= fun r => match r with
      | none => pure (.done .next)
      | some v => letOwnedTupleGo t1 it v >>= fun _ => assign t1 env v >>= fun _ =>
        (eval elt env >>= fun x => call (.builtin "list.append") [acc, x] >>= fun _ => pure ()) >>= fun _ =>
          again (.compLoop (.ListComp elt [⟨t0, i0, [], 0⟩, ⟨t1, i1, [], 0⟩] scope pos) 1 it acc env)) := by rfl
section
variable {prog : Program} {w : World} {A : Around} {E : Value → Shared → Prop} {R : Result → Shared → Prop} {env : Env} {elt i0 i1 : Expr} {x0 x1 : Str} {p0 p1 : Pos} {scope : Scope} {pos : Pos} {acc : Value}
theorem runOwn_any {M : Model} {s : Shared} {c : Code} {Q : Flow → Shared → Prop} (hc : codeAny M A c (Ret Q) s) : wpAny M A (runOwn c env) Q E s := by
  unfold runOwn
  refine wpAny_onRaise (wpAny_run (codeAny_mono hc fun r s' h => ?_))
  cases r with
  | ok f => exact h
  | error e => exact h.elim
theorem start_two0 {s : Shared} {it : Value} (h0 : codeAny (model prog w) A (.compLoop (.ListComp elt [⟨.Name x0 p0, i0, [], 0⟩, ⟨.Name x1 p1, i1, [], 0⟩] scope pos) 0 it acc env) R s)
    (hself : ∀ (Q : Value → Shared → Prop) (E : Value → Shared → Prop), Q it s → wpAny (model prog w) A (pyIter it) Q E s) :
    codeAny (model prog w) A (.compStart (.ListComp elt [⟨.Name x0 p0, i0, [], 0⟩, ⟨.Name x1 p1, i1, [], 0⟩] scope pos) 0 it acc env) R s :=
  codeAny_compStart_list h0 (hself _ _ h0)
theorem start_two1 {s : Shared} {it : Value} (h0 : codeAny (model prog w) A (.compLoop (.ListComp elt [⟨.Name x0 p0, i0, [], 0⟩, ⟨.Name x1 p1, i1, [], 0⟩] scope pos) 1 it acc env) R s)
    (hself : ∀ (Q : Value → Shared → Prop) (E : Value → Shared → Prop), Q it s → wpAny (model prog w) A (pyIter it) Q E s) :
    codeAny (model prog w) A (.compStart (.ListComp elt [⟨.Name x0 p0, i0, [], 0⟩, ⟨.Name x1 p1, i1, [], 0⟩] scope pos) 1 it acc env) R s := by
  refine codeAny_of_tree ?_
  show wpAny _ _ ((compStart (.ListComp elt [⟨.Name x0 p0, i0, [], 0⟩, ⟨.Name x1 p1, i1, [], 0⟩] scope pos) 1 it acc env).onRaise (fun x => do noteFrame x env; standAt theWindowsPlace)) _ _ s
  refine wpAny_notedAt ?_
  unfold compStart
  show wpAny _ _ (ask >>= _) _ _ s
  refine wpAny_bind (wpAny_askSetting (wpAny_ite ?_))
  split
  · first
      | exact wpAny_bind (wpAny_pure (wpAny_pure (And.intro rfl h0)))
      | exact wpAny_pure (And.intro rfl h0)
  · refine wpAny_bind (wpAny_rule ?_)
    show wpAny _ _ (standAt i1.pos >>= _) _ _ s
    exact wpAny_bind (wpAny_standAt (wpAny_bind (hself _ _ (wpAny_pure (And.intro rfl h0)))))
theorem loop_two0 {it : Value} (n : Nat) (J : Nat → Shared → Prop)
    (turn : ∀ i s, i < n → J i s → wpAny (model prog w) A (pyNext it) (fun r s₁ => ∃ v, r = some v ∧ wpAny (model prog w) A (assign (.Name x0 p0) env v) (fun _ s₂ => wpAny (model prog w) A (eval i1 env) (fun xv s₃ =>
      wpAny (model prog w) A (pyIter xv) (fun it1 s₄ => codeAny (model prog w) A (.compStart (.ListComp elt [⟨.Name x0 p0, i0, [], 0⟩, ⟨.Name x1 p1, i1, [], 0⟩] scope pos) 1 it1 acc env) (Ret fun _ s₅ => J (i + 1) s₅) s₄) NoE s₃) NoE s₂) NoE s₁) NoE s)
    (done : ∀ s, J n s → wpAny (model prog w) A (pyNext it) (fun r s₁ => r = none ∧ R (.ok .next) s₁) NoE s)
    (hs : ∀ x, foldedSetIterable i1 env x = pure x := by intro _; rfl) :
    ∀ (k i : Nat) (s : Shared), k = n - i → i ≤ n → J i s → codeAny (model prog w) A (.compLoop (.ListComp elt [⟨.Name x0 p0, i0, [], 0⟩, ⟨.Name x1 p1, i1, [], 0⟩] scope pos) 0 it acc env) R s := by
  intro k
  induction k with
  | zero =>
    intro i s hk hi hJ
    obtain rfl : i = n := by omega
    refine codeAny_of_tree ?_
    show wpAny _ A ((compTurn (.ListComp elt [⟨.Name x0 p0, i0, [], 0⟩, ⟨.Name x1 p1, i1, [], 0⟩] scope pos) 0 it acc env).onRaise (fun x => do noteFrame x env; theTreesLotGoes x)) _ _ s
    refine wpAny_onRaise (any_noE ?_)
    rw [compTurn_two]
    refine wpAny_bind (wpAny_standAt (wpAny_bind (wpAny_mono (done s hJ) (fun r s₁ h₁ => ?_) fun _ _ e => e)))
    obtain ⟨rfl, h₁⟩ := h₁
    exact wpAny_pure h₁
  | succ k ih =>
    intro i s hk hi hJ
    refine codeAny_of_tree ?_
    show wpAny _ A ((compTurn (.ListComp elt [⟨.Name x0 p0, i0, [], 0⟩, ⟨.Name x1 p1, i1, [], 0⟩] scope pos) 0 it acc env).onRaise (fun x => do noteFrame x env; theTreesLotGoes x)) _ _ s
    refine wpAny_onRaise (any_noE ?_)
    rw [compTurn_two]
    refine wpAny_bind (wpAny_standAt (wpAny_bind (wpAny_mono (turn i s (by omega) hJ) (fun r s₁ h₁ => ?_) fun _ _ e => e)))
    obtain ⟨v, rfl, h₁⟩ := h₁
    refine wpAny_bind (wpAny_of_eq rfl ?_)
    refine wpAny_bind (wpAny_mono h₁ (fun _ s₂ h₂ => ?_) fun _ _ e => e)
    refine wpAny_bind (wpAny_mono h₂ (fun xv s₃ h₃ => ?_) fun _ _ e => e)
    refine wpAny_bind (wpAny_standAt (wpAny_bind (wpAny_of_eq (hs _) (wpAny_bind (wpAny_holding (wpAny_mono h₃ (fun it1 s₄ h₄ => ?_) fun _ _ e => e))))))
    refine wpAny_bind (runOwn_any (codeAny_mono h₄ fun r s₅ h₅ => ?_))
    cases r with
    | ok f => exact wpAny_pure ⟨rfl, ih (i + 1) s₅ (by omega) (by omega) h₅⟩
    | error e => exact h₅.elim
theorem loop_two1 {it : Value} (n : Nat) (J : Nat → Shared → Prop)
    (turn : ∀ i s, i < n → J i s → wpAny (model prog w) A (pyNext it) (fun r s₁ => ∃ v, r = some v ∧ wpAny (model prog w) A (assign (.Name x1 p1) env v) (fun _ s₂ => wpAny (model prog w) A (eval elt env) (fun x s₃ =>
      wpAny (model prog w) A (call (.builtin "list.append") [acc, x]) (fun _ s₄ => J (i + 1) s₄) NoE s₃) NoE s₂) NoE s₁) NoE s)
    (done : ∀ s, J n s → wpAny (model prog w) A (pyNext it) (fun r s₁ => r = none ∧ R (.ok .next) s₁) NoE s) :
    ∀ (k i : Nat) (s : Shared), k = n - i → i ≤ n → J i s → codeAny (model prog w) A (.compLoop (.ListComp elt [⟨.Name x0 p0, i0, [], 0⟩, ⟨.Name x1 p1, i1, [], 0⟩] scope pos) 1 it acc env) R s := by
  intro k
  induction k with
  | zero =>
    intro i s hk hi hJ
    obtain rfl : i = n := by omega
    refine codeAny_of_tree ?_
    show wpAny _ A ((compTurn (.ListComp elt [⟨.Name x0 p0, i0, [], 0⟩, ⟨.Name x1 p1, i1, [], 0⟩] scope pos) 1 it acc env).onRaise (fun x => do noteFrame x env; theTreesLotGoes x)) _ _ s
    refine wpAny_onRaise (any_noE ?_)
    rw [compTurn_last]
    refine wpAny_bind (wpAny_standAt (wpAny_bind (wpAny_mono (done s hJ) (fun r s₁ h₁ => ?_) fun _ _ e => e)))
    obtain ⟨rfl, h₁⟩ := h₁
    exact wpAny_pure h₁
  | succ k ih =>
    intro i s hk hi hJ
    refine codeAny_of_tree ?_
    show wpAny _ A ((compTurn (.ListComp elt [⟨.Name x0 p0, i0, [], 0⟩, ⟨.Name x1 p1, i1, [], 0⟩] scope pos) 1 it acc env).onRaise (fun x => do noteFrame x env; theTreesLotGoes x)) _ _ s
    refine wpAny_onRaise (any_noE ?_)
    rw [compTurn_last]
    refine wpAny_bind (wpAny_standAt (wpAny_bind (wpAny_mono (turn i s (by omega) hJ) (fun r s₁ h₁ => ?_) fun _ _ e => e)))
    obtain ⟨v, rfl, h₁⟩ := h₁
    refine wpAny_bind (wpAny_of_eq rfl ?_)
    refine wpAny_bind (wpAny_mono h₁ (fun _ s₂ h₂ => ?_) fun _ _ e => e)
    refine wpAny_bind (wpAny_bind (wpAny_mono h₂ (fun x s₃ h₃ => ?_) fun _ _ e => e))
    refine wpAny_bind (wpAny_mono h₃ (fun _ s₄ h₄ => ?_) fun _ _ e => e)
    exact wpAny_pure (wpAny_pure ⟨rfl, ih (i + 1) s₄ (by omega) (by omega) h₄⟩)
end
end
/-! Comp4 -/
section
set_option maxRecDepth 100000
set_option maxHeartbeats 4000000
section
variable {prog : Program} {w : World} {A : Around} {E : Value → Shared → Prop} {env : Env} {s : Shared} {h₀ : Heap} {L : Addr} {m : Str → Option Value}
theorem list_next {I l : Addr} {rest : List (Addr × Obj)} {o : Obj} {i : Nat} {items : Array Value} {v : Value} {Q : Value → Shared → Prop}
    (F : Fr h₀ L s.heap m) (N : News h₀ L s.heap ((I, o) :: rest)) (ho : listItO l i o) (hl : s.heap.IsList l items) (hv : items[i]? = some v) (hne : Off I rest)
    (h : ∀ h' o', Fr h₀ L h' m → News h₀ L h' ((I, o') :: rest) → listItO l (i + 1) o' → Q v { s with heap := h' }) :
    wpAny (model prog w) A (pyNext (.ref I)) (fun r s₁ => ∃ v, r = some v ∧ Q v s₁) NoE s := by
  obtain ⟨hI, hIL, hI0⟩ := N _ (.head _)
  refine wpAny_pyNext_list_item ⟨o, hI, ho.1, ho.2⟩ hl hv fun h' hi' hs' => ⟨_, rfl, ?_⟩
  obtain ⟨o', ho', hc', hd'⟩ := hi'
  exact h h' o' (fr_but F (same_but hs') (nin1 (Ne.symm hIL)) (all1 hI0)) (news_cons ho' hIL hI0 (news_but (news_tl N) (same_but hs') hne.nin)) ⟨hc', hd'⟩
/-- a store into a comprehension's block -/
theorem store_C {scope : Scope} {cl : List (Str × Addr)} {C : Addr} {oC : Obj} {mC : Str → Option Value} {rest : List (Addr × Obj)} {x : Str} {v : Value} {Q : Unit → Shared → Prop} (F : Fr h₀ L s.heap m) (N : News h₀ L s.heap ((C, oC) :: rest)) (hC : LCg.NsObj oC mC) (off : Off C rest)
    (h : ∀ h' oC' m', Fr h₀ L h' m → News h₀ L h' ((C, oC') :: rest) → LCg.NsObj oC' m' → m' x = some v → Q () { s with heap := h', toks := s.toks + 1 })
    (hy : (compEnvC scope cl C env).kindOf x = some .local := by rfl) (hp : ((compEnvC scope cl C env).scope.kind == .class || ((compEnvC scope cl C env).scope.kind == .module && (compEnvC scope cl C env).locals != (compEnvC scope cl C env).globals)) = false := by rfl) :
    wpAny (model prog w) A (storeName (compEnvC scope cl C env) x v) Q E s := by
  obtain ⟨g1, g2, g3⟩ := N _ (.head _)
  refine wpAny_storeName_local hy (hC.ns g1) (fun h₂ hn₂ hs₂ => ?_) hp
  obtain ⟨oC', e1, e2⟩ := LCg.ns_obj hn₂
  have hs : Heap.SameBut C s.heap h₂ := hs₂
  exact h h₂ oC' _ (fr_but F (same_but hs) (nin1 (Ne.symm g2)) (all1 g3)) (news_cons e1 g2 g3 (news_but (news_tl N) (same_but hs) off.nin)) e2 (by simp)
/-- an append to a list of the ledger -/
theorem append_L {D : Addr} {ys : List Value} {rest : List (Addr × Obj)} {v : Value} {Q : Value → Shared → Prop} (F : Fr h₀ L s.heap m) (N : News h₀ L s.heap ((D, LCg.lst ys) :: rest)) (off : Off D rest) (hz : ys.length ≤ sizeLine)
    (h : ∀ h', Fr h₀ L h' m → News h₀ L h' ((D, LCg.lst (ys ++ [v])) :: rest) → Q .none { s with heap := h' }) :
    wpAny (model prog w) A (call (.builtin "list.append") [.ref D, v]) Q E s := by
  obtain ⟨g1, g2, g3⟩ := N _ (.head _)
  refine append_at (hsz := by rw [List.size_toArray]; exact hz) g1 fun h' hs ho' => ?_
  rw [LCg.lst_snoc] at ho'
  exact h h' (fr_but F (same_but hs) (nin1 (Ne.symm g2)) (all1 g3)) (news_cons ho' g2 g3 (news_but (news_tl N) (same_but hs) off.nin))
theorem ListComp_two {elt i0 i1 : Expr} {x0 x1 : Str} {p0 p1 : Pos} {scope : Scope} {pos : Pos} {Q : Value → Shared → Prop}
    (hclos : closureFor scope env = pure []) (hcell : ∀ y ∈ scope.names, y.2 ≠ .cell) (hkind : scope.kind = .function) (hnames : ∀ y ∈ scope.names, y.2 = .local → scope.names.lookup y.1 = some .local)
    (h : wpAny (model prog w) A (eval i0 env) (fun xv s₁ => wpAny (model prog w) A (pyIter xv) (fun it s₂ => ∃ news, Fr h₀ L s₂.heap m ∧ News h₀ L s₂.heap news ∧
      ∀ C D oC mC h tk, Fr h₀ L h m → News h₀ L h ((C, oC) :: (D, LCg.lst []) :: news) → LCg.NsObj oC mC → Off D news → Off C news → @LT.lt Nat _ D C →
        codeAny (model prog w) A (.compStart (.ListComp elt [⟨.Name x0 p0, i0, [], 0⟩, ⟨.Name x1 p1, i1, [], 0⟩] scope pos) 0 it (.ref D) (compEnvC scope [] C env))
          (Ret fun _ s' => ∃ oC' m' news', Fr h₀ L s'.heap m ∧ News h₀ L s'.heap ((C, oC') :: news') ∧ LCg.NsObj oC' m' ∧ Off C news' ∧ ∀ h', Fr h₀ L h' m → News h₀ L h' news' → Q (.ref D) { s' with heap := h' }) { s₂ with heap := h, toks := tk }) E s₁) E s)
    (hs : ∀ x, foldedSetIterable i0 env x = pure x := by intro _; rfl) :
    wpAny (model prog w) A (eval (.ListComp elt [⟨.Name x0 p0, i0, [], 0⟩, ⟨.Name x1 p1, i1, [], 0⟩] scope pos) env) Q E s := by
  rw [eval_ListComp]
  refine wpAny_comprehension_free (use := none) rfl hs hclos hkind hnames (wpAny_mono h (fun xv s₁ h₁ => wpAny_mono h₁ (fun it s₂ h₂ => ?_) fun _ _ e => e) fun _ _ e => e)
  obtain ⟨news, F, N, k⟩ := h₂
  refine wpAny_newObj_type (wpAny_newFunctionEnv hcell (by intro y hy; simp at hy) (fun h₁ hns₁ hsb₁ => ?_) hkind)
  dsimp only at hns₁ hsb₁ ⊢
  have F2 := F.push { cls := .type "list", dict := none, data := .seq ([] : List Value).toArray }
  have N2 := News.push F N { cls := .type "list", dict := none, data := .seq ([] : List Value).toArray } rfl
  have hz2 : (s₂.heap.push { cls := .type "list", dict := none, data := .seq ([] : List Value).toArray }).objs.size = s₂.heap.objs.size + 1 := Heap.size_push ..
  have hlt := news_lt N
  have hL := fr_lt F
  generalize s₂.heap.push { cls := .type "list", dict := none, data := .seq ([] : List Value).toArray } = H2 at *
  obtain ⟨oC, e1, e2⟩ := LCg.ns_obj hns₁
  have hC0 : h₀.get? H2.objs.size = none := fresh_none F2 (Nat.le_refl _)
  have k12 : Kp H2 h₁ := fun b o e => hsb₁.extBut b o (Nat.ne_of_lt (Heap.lt_size e)) (Heap.get?_push_of_some _ e)
  have offD : Off s₂.heap.objs.size news := fun b hb => by
    obtain ⟨p, hp, rfl⟩ := List.mem_map.mp hb
    exact Nat.ne_of_lt (hlt p hp)
  have offC : Off H2.objs.size news := fun b hb => by
    obtain ⟨p, hp, rfl⟩ := List.mem_map.mp hb
    have := hlt p hp
    rw [hz2]
    exact Nat.ne_of_lt (Nat.lt_succ_of_lt this)
  refine codeAny_mono (k H2.objs.size s₂.heap.objs.size oC _ h₁ _ (fr_kp F2 k12) (news_cons e1 (by rw [hz2]; omega) hC0 (news_kp N2 k12)) e2 offD offC (by rw [hz2]; omega)) fun r s' hr => ?_
  cases r with
  | error e => exact hr.elim
  | ok f =>
    obtain ⟨oC', m', news', F', N', hC', off', fin⟩ := hr
    obtain ⟨g1, g2, g3⟩ := N' _ (.head _)
    refine ⟨m', hC'.ns g1, fun h'' hs'' => fin h'' (fr_but F' (same_but hs'') (nin1 (Ne.symm g2)) (all1 g3)) (news_but (news_tl N') (same_but hs'') off'.nin)⟩
end
end
/-! LT -/
theorem fresh_LT : True ∧ True := by
  w_top off
  first
    | (walk1; done)
    | exact ⟨trivial, trivial⟩
section
set_option maxRecDepth 100000
set_option maxHeartbeats 8000000
section
variable {w : World} {A : Around} {E : Value → Shared → Prop} {s : Shared} {mean : ExcName → Option Value} {mg mb : Str → Option Value}


theorem fm_nat (n x : Nat) : ((n : Int).fdiv (x : Int)).fmod 2 = ((n / x % 2 : Nat) : Int) := by
  rw [Int.fdiv_eq_ediv_of_nonneg _ (Int.natCast_nonneg x), Int.fmod_eq_emod_of_nonneg _ (by decide)]; norm_cast
theorem fm_yes {n x : Nat} {z : Int} (hz : z = (x : Int)) (h : ((n : Int).fdiv z).fmod 2 = 1) : n / x % 2 = 1 := by
  rw [hz, fm_nat] at h; exact Int.ofNat_inj.mp h
theorem fm_no {n x : Nat} {z : Int} (hz : z = (x : Int)) (h : ((n : Int).fdiv z).fmod 2 ≠ 1) : ¬ n / x % 2 = 1 := by
  rw [hz, fm_nat] at h; exact fun q => h (by rw [q]; rfl)
theorem item_two {p : Str} {a b : Nat} {z : Int} {n x : Nat} (hz : z = (x : Int)) (hp : p = ⟨#[a, b]⟩) : Txt.item p (((n : Int).fdiv z).fmod 2) = one (if n / x % 2 = 1 then b else a) := by
  rw [hz, fm_nat]
  have h : n / x % 2 = 0 ∨ n / x % 2 = 1 := by omega
  subst hp
  rcases h with h | h <;> rw [h] <;> rfl
theorem text_fits (n i : Nat) (p : Str) (z : Int) : (⟨((codes n).take i).toArray⟩ : Str).length + (Txt.item p z).length ≤ sizeLine := by
  have e : (⟨((codes n).take i).toArray⟩ : Str).length = ((codes n).take i).length := by simp [Str.length]
  have q : (Txt.item p z).length = 1 := rfl
  rw [e, q, List.length_take, codes_length, PySem.sizeLine_eq]
  omega
theorem text_more {n i c : Nat} (hi : i + 1 < 10) (hc : c = signAt n i) : (⟨((codes n).take (i + 1)).toArray⟩ : Str) ++ one c = ⟨((codes n).take (i + 1 + 1)).toArray⟩ := by
  rw [codes_take hi, hc]
  show Str.mk _ = _
  simp [codeAt, one]
theorem kind_item : ∀ x : Nat, x < 16 → Txt.item (Str.ofString "?pc?d?b?-?l?s???") (x : Int) = one (kinds.getD x 63) := by decide +kernel
theorem text_start {n : Nat} {z : Int} (hz : z = ((4096 : Nat) : Int)) (hn : n < 65536) : Txt.item (Str.ofString "?pc?d?b?-?l?s???") ((n : Int).fdiv z) = ⟨((codes n).take (0 + 1)).toArray⟩ := by
  rw [hz, Int.fdiv_eq_ediv_of_nonneg _ (Int.natCast_nonneg _), ← Int.natCast_ediv, kind_item _ (by omega)]
  rfl
def LtJ (s : Shared) (I : Addr) (n : Nat) (t : Tok) (i : Nat) (s' : Shared) : Prop :=
  ∃ h tk m t', s' = { s with heap := h, toks := tk } ∧ Fr s.heap s.heap.objs.size h m ∧ News s.heap s.heap.objs.size h [(I, rangeO i (9 - i) 1)] ∧
      m (Str.ofString "text") = some (.str ⟨((codes n).take (i + 1)).toArray⟩ t') ∧ m (Str.ofString "mode") = some (.int (n : Int) t)
theorem lawtext_A {n : Nat} {t : Tok} {Q : Value → Shared → Prop} (X : (hd.heap_39 w.params).In s.heap) (T : Top hd.view_39 (looseW hd.view_39 [Str.ofString "_filemode_table"]) mean mg mb s.heap)
    (hdp : A.depth + 2 < recursionLimit) (hh : A.handled = none) (hn : n < 65536)
    (hQ : ∀ h' tk t', Kp s.heap h' → Q (.str ⟨(codes n).toArray⟩ t') { s with heap := h', toks := tk }) :
    wpAny (model PySem.Challenge.rw_pg0089_01.row.prog w) A (call (.ref 87) [.int (n : Int) t]) Q E s := by
  revert X; k_fill; intro X
  refine' callA (binds := [(Str.ofString "mode", .int (n : Int) t)]) X T (Nat.lt_of_le_of_lt (Nat.le_add_right _ _) hdp) ?ho ?hcd ?hb ?hl ?hc ?c1 ?c2 ?c3 ?_
  case ho => k_dflt k_is
  case hcd => k_dflt k_is
  case hb => rfl
  case hl => exact locs rfl
  case hc => decide
  case c1 => rfl
  case c2 => rfl
  case c3 => rfl
  intro h₁ F N X' T'
  refine execs_stop ?_
  k_steps
  rename_i F2 N2
  dsimp only at F2 N2
  unfold Stop
  refine wpAny_execs_cons ?_
  refine forA ?_
  k_steps
  rename_i h3 tk3 t1 t2 t3 hr F3 N3 k3
  dsimp only at hr F3 N3
  refine range_enter (s := ⟨h3, _, _, _, _⟩) hr (by decide +kernel) 9 (by decide +kernel) F3 N3 fun I h4 F4 N4 off => ?_
  dsimp only
  clear F3 N3
  refine forA_inv 9 (LtJ s I n t) ?_ ?_ 9 0 _ rfl (Nat.zero_le _) ?_
  · rintro i s' hi ⟨h, tk, m, t', rfl, F5, N5, htx, hm⟩
    refine range_turn (s := ⟨h, _, _, _, _⟩) F5 N5 off (by omega) fun h6 F6 N6 => ?_
    clear F4 N4 F5 N5
    dsimp only
    rcases (show i = 0 ∨ i = 1 ∨ i = 2 ∨ i = 3 ∨ i = 4 ∨ i = 5 ∨ i = 6 ∨ i = 7 ∨ i = 8 by omega) with rfl | rfl | rfl | rfl | rfl | rfl | rfl | rfl | rfl
    · rw [show ((0 : Nat) : Int) = 0 from rfl] at *
      k_steps
      refine iadd_str (fun t7 tk7 => ?_) (text_fits n 1 _ _)
      dsimp only
      k_steps
      rename_i F' N'
      refine ⟨_, _, _, _, rfl, F', news_sub N' (by simp), (congrArg (fun z => some (Value.str z t7)) (show _ ++ _ = _ from ?_)), by with_unfolding_all exact hm⟩
      rw [item_two (z := 256) (x := 256) (a := 45) (b := 114) rfl (by decide +kernel)]
      refine text_more (by decide) ?_
      simp [signAt]
    · rw [show ((1 : Nat) : Int) = 1 from rfl] at *
      k_steps
      refine iadd_str (fun t7 tk7 => ?_) (text_fits n 2 _ _)
      dsimp only
      k_steps
      rename_i F' N'
      refine ⟨_, _, _, _, rfl, F', news_sub N' (by simp), (congrArg (fun z => some (Value.str z t7)) (show _ ++ _ = _ from ?_)), by with_unfolding_all exact hm⟩
      rw [item_two (z := 128) (x := 128) (a := 45) (b := 119) rfl (by decide +kernel)]
      refine text_more (by decide) ?_
      simp [signAt]
    · rw [show ((2 : Nat) : Int) = 2 from rfl] at *
      refine wpAny_stop ?_
      k_steps
      unfold Stop
      refine execs_stop ?_
      k_steps
      unfold Stop
      refine execs_stop (wpAny_If (wpAny_stop ?_))
      k_steps
      · rename_i hb
        unfold Stop
        rw [if_pos rfl]
        refine execs_stop ?_
        dsimp only at *
        k_steps
        unfold Stop
        refine wpAny_execs_nil ?_
        dsimp only at *
        k_steps
        replace hb : n / 2048 % 2 = 1 := fm_yes (z := 2048) rfl hb
        refine iadd_str (fun t7 tk7 => ?_) (text_fits n 3 _ _)
        dsimp only
        k_steps
        rename_i F' N'
        refine ⟨_, _, _, _, rfl, F', news_sub N' (by simp), (congrArg (fun z => some (Value.str z t7)) (show _ ++ _ = _ from ?_)), by with_unfolding_all exact hm⟩
        rw [item_two (z := 64) (x := 64) (a := 83) (b := 115) rfl (by decide +kernel)]
        refine text_more (by decide) ?_
        simp [signAt, hb]
      · rename_i hb
        unfold Stop
        rw [if_neg (by decide)]
        refine wpAny_execs_nil ?_
        dsimp only at *
        k_steps
        replace hb : ¬ n / 2048 % 2 = 1 := fm_no (z := 2048) rfl hb
        refine iadd_str (fun t7 tk7 => ?_) (text_fits n 3 _ _)
        dsimp only
        k_steps
        rename_i F' N'
        refine ⟨_, _, _, _, rfl, F', news_sub N' (by simp), (congrArg (fun z => some (Value.str z t7)) (show _ ++ _ = _ from ?_)), by with_unfolding_all exact hm⟩
        rw [item_two (z := 64) (x := 64) (a := 45) (b := 120) rfl (by decide +kernel)]
        refine text_more (by decide) ?_
        simp [signAt, hb]
    · rw [show ((3 : Nat) : Int) = 3 from rfl] at *
      k_steps
      refine iadd_str (fun t7 tk7 => ?_) (text_fits n 4 _ _)
      dsimp only
      k_steps
      rename_i F' N'
      refine ⟨_, _, _, _, rfl, F', news_sub N' (by simp), (congrArg (fun z => some (Value.str z t7)) (show _ ++ _ = _ from ?_)), by with_unfolding_all exact hm⟩
      rw [item_two (z := 32) (x := 32) (a := 45) (b := 114) rfl (by decide +kernel)]
      refine text_more (by decide) ?_
      simp [signAt]
    · rw [show ((4 : Nat) : Int) = 4 from rfl] at *
      k_steps
      refine iadd_str (fun t7 tk7 => ?_) (text_fits n 5 _ _)
      dsimp only
      k_steps
      rename_i F' N'
      refine ⟨_, _, _, _, rfl, F', news_sub N' (by simp), (congrArg (fun z => some (Value.str z t7)) (show _ ++ _ = _ from ?_)), by with_unfolding_all exact hm⟩
      rw [item_two (z := 16) (x := 16) (a := 45) (b := 119) rfl (by decide +kernel)]
      refine text_more (by decide) ?_
      simp [signAt]
    · rw [show ((5 : Nat) : Int) = 5 from rfl] at *
      refine wpAny_stop ?_
      k_steps
      unfold Stop
      refine execs_stop ?_
      k_steps
      unfold Stop
      refine execs_stop (wpAny_If (wpAny_stop ?_))
      k_steps
      · rename_i hb
        unfold Stop
        rw [if_pos rfl]
        refine execs_stop ?_
        dsimp only at *
        k_steps
        unfold Stop
        refine wpAny_execs_nil ?_
        dsimp only at *
        k_steps
        replace hb : n / 1024 % 2 = 1 := fm_yes (z := 1024) rfl hb
        refine iadd_str (fun t7 tk7 => ?_) (text_fits n 6 _ _)
        dsimp only
        k_steps
        rename_i F' N'
        refine ⟨_, _, _, _, rfl, F', news_sub N' (by simp), (congrArg (fun z => some (Value.str z t7)) (show _ ++ _ = _ from ?_)), by with_unfolding_all exact hm⟩
        rw [item_two (z := 8) (x := 8) (a := 83) (b := 115) rfl (by decide +kernel)]
        refine text_more (by decide) ?_
        simp [signAt, hb]
      · rename_i hb
        unfold Stop
        rw [if_neg (by decide)]
        refine wpAny_execs_nil ?_
        dsimp only at *
        k_steps
        replace hb : ¬ n / 1024 % 2 = 1 := fm_no (z := 1024) rfl hb
        refine iadd_str (fun t7 tk7 => ?_) (text_fits n 6 _ _)
        dsimp only
        k_steps
        rename_i F' N'
        refine ⟨_, _, _, _, rfl, F', news_sub N' (by simp), (congrArg (fun z => some (Value.str z t7)) (show _ ++ _ = _ from ?_)), by with_unfolding_all exact hm⟩
        rw [item_two (z := 8) (x := 8) (a := 45) (b := 120) rfl (by decide +kernel)]
        refine text_more (by decide) ?_
        simp [signAt, hb]
    · rw [show ((6 : Nat) : Int) = 6 from rfl] at *
      k_steps
      refine iadd_str (fun t7 tk7 => ?_) (text_fits n 7 _ _)
      dsimp only
      k_steps
      rename_i F' N'
      refine ⟨_, _, _, _, rfl, F', news_sub N' (by simp), (congrArg (fun z => some (Value.str z t7)) (show _ ++ _ = _ from ?_)), by with_unfolding_all exact hm⟩
      rw [item_two (z := 4) (x := 4) (a := 45) (b := 114) rfl (by decide +kernel)]
      refine text_more (by decide) ?_
      simp [signAt]
    · rw [show ((7 : Nat) : Int) = 7 from rfl] at *
      k_steps
      refine iadd_str (fun t7 tk7 => ?_) (text_fits n 8 _ _)
      dsimp only
      k_steps
      rename_i F' N'
      refine ⟨_, _, _, _, rfl, F', news_sub N' (by simp), (congrArg (fun z => some (Value.str z t7)) (show _ ++ _ = _ from ?_)), by with_unfolding_all exact hm⟩
      rw [item_two (z := 2) (x := 2) (a := 45) (b := 119) rfl (by decide +kernel)]
      refine text_more (by decide) ?_
      simp [signAt]
    · rw [show ((8 : Nat) : Int) = 8 from rfl] at *
      refine wpAny_stop ?_
      k_steps
      unfold Stop
      refine execs_stop ?_
      k_steps
      unfold Stop
      refine execs_stop (wpAny_If (wpAny_stop ?_))
      k_steps
      · rename_i hb
        unfold Stop
        rw [if_pos rfl]
        refine execs_stop ?_
        dsimp only at *
        k_steps
        unfold Stop
        refine wpAny_execs_nil ?_
        dsimp only at *
        k_steps
        replace hb : n / 512 % 2 = 1 := fm_yes (z := 512) rfl hb
        refine iadd_str (fun t7 tk7 => ?_) (text_fits n 9 _ _)
        dsimp only
        k_steps
        rename_i F' N'
        refine ⟨_, _, _, _, rfl, F', news_sub N' (by simp), (congrArg (fun z => some (Value.str z t7)) (show _ ++ _ = _ from ?_)), by with_unfolding_all exact hm⟩
        rw [item_two (z := 1) (x := 1) (a := 84) (b := 116) rfl (by decide +kernel)]
        refine text_more (by decide) ?_
        simp [signAt, hb]
      · rename_i hb
        unfold Stop
        rw [if_neg (by decide)]
        refine wpAny_execs_nil ?_
        dsimp only at *
        k_steps
        replace hb : ¬ n / 512 % 2 = 1 := fm_no (z := 512) rfl hb
        refine iadd_str (fun t7 tk7 => ?_) (text_fits n 9 _ _)
        dsimp only
        k_steps
        rename_i F' N'
        refine ⟨_, _, _, _, rfl, F', news_sub N' (by simp), (congrArg (fun z => some (Value.str z t7)) (show _ ++ _ = _ from ?_)), by with_unfolding_all exact hm⟩
        rw [item_two (z := 1) (x := 1) (a := 45) (b := 120) rfl (by decide +kernel)]
        refine text_more (by decide) ?_
        simp [signAt, hb]
  · rintro s' ⟨h, tk, m, t', rfl, F5, N5, htx, hm⟩
    refine range_done (s := ⟨h, _, _, _, _⟩) hh F5 N5 off (by omega) fun h6 F6 N6 => ?_
    clear F4 N4 F5 N5
    refine wpAny_execs_nil ?_
    dsimp only [Ret]
    rw [show List.take (9 + 1) (codes n) = codes n from List.take_of_length_le (by rw [codes_length]; exact Nat.le_refl _)] at htx
    k_steps
    exact hQ _ _ _ F6.keep
  · rw [text_start (z := 4096) rfl hn] at F4
    exact ⟨_, _, _, _, rfl, F4, N4, by with_unfolding_all rfl, by with_unfolding_all rfl⟩
end
end
/-! LW -/
theorem fresh_LW : True ∧ True := by
  w_top off
  first
    | (walk1; done)
    | exact ⟨trivial, trivial⟩
section
set_option maxRecDepth 100000
set_option maxHeartbeats 4000000
section
variable {w : World} {A : Around} {E : Value → Shared → Prop} {s : Shared} {mean : ExcName → Option Value} {mg mb : Str → Option Value}
theorem rshift_w {prog : Program} {x y : Nat} {t u : Tok} {Q : Value → Shared → Prop} (h : Q (.int ((256 / 2 ^ (x + y) : Nat) : Int) s.toks) { s with toks := s.toks + 1 }) :
    wpAny (model prog w) A (binaryOp .RShift (.int 256 t) (.int ((x : Int) + (y : Int)) u)) Q E s := by
  refine rshift_c (by omega) ?_ h
  rw [show ((x : Int) + (y : Int)).toNat = x + y by omega, Int.fdiv_eq_ediv_of_nonneg _ (by exact Int.le_of_lt (Int.pow_pos (by decide)))]
  norm_cast
local macro_rules | `(tactic| walk_at "binaryOp RShift int int") => `(tactic| (k_here; (refine' rshift_w ?_)))

def LwJ (s : Shared) (e it : Addr) (b : Array UInt8) (t : Tok) (start : Nat) (ts : Tok) (i : Nat) (s' : Shared) : Prop :=
  ∃ h tk m old o2 tw, s' = { s with heap := h, toks := tk } ∧ Fr s.heap s.heap.objs.size h m ∧ News s.heap s.heap.objs.size h [(e, enumO it i old), (it, o2)] ∧
      o2.cls = .type "bytes_iterator" ∧ o2.data = .fields #[.bytes b t, .int i 0] ∧
      m (Str.ofString "worth") = some (.int (worthTo b start i : Nat) tw) ∧ m (Str.ofString "start") = some (.int (start : Int) ts)
theorem lawworth_A {b : Array UInt8} {t ts : Tok} {start : Nat} {Q : Value → Shared → Prop} (X : (hd.heap_39 w.params).In s.heap) (T : Top hd.view_39 (looseW hd.view_39 [Str.ofString "_filemode_table"]) mean mg mb s.heap)
    (hdp : A.depth + 2 < recursionLimit) (hh : A.handled = none)
    (hQ : ∀ h' tk t', Kp s.heap h' → Q (.int (worthTo b start b.size : Nat) t') { s with heap := h', toks := tk }) :
    wpAny (model PySem.Challenge.rw_pg0089_01.row.prog w) A (call (.ref 99) [.bytes b t, .int (start : Int) ts]) Q E s := by
  revert X; k_fill; intro X
  refine' callA (binds := [(Str.ofString "octets", .bytes b t), (Str.ofString "start", .int (start : Int) ts)]) X T (Nat.lt_of_le_of_lt (Nat.le_add_right _ _) hdp) ?ho ?hcd ?hb ?hl ?hc ?c1 ?c2 ?c3 ?_
  case ho => k_dflt k_is
  case hcd => k_dflt k_is
  case hb => rfl
  case hl => exact locs rfl
  case hc => decide
  case c1 => rfl
  case c2 => rfl
  case c3 => rfl
  intro h₁ F N X' T'
  refine execs_stop ?_
  k_steps
  rename_i h3 F3 N3
  dsimp only at F3 N3
  unfold Stop
  refine wpAny_execs_cons ?_
  refine forA ?_
  k_steps
  refine call_enum_bytes (s := ⟨h3, _, _, _, _⟩) fun h4 he4 hi4 hz4 hk4 => ?_
  dsimp only at he4 hi4 hz4 hk4 ⊢
  have F4 := fr_kp F3 hk4
  have hfe := fresh_none F3 (Nat.le_succ h3.objs.size)
  have hfi := fresh_none F3 (Nat.le_refl h3.objs.size)
  have hL3 := fr_lt F3
  obtain ⟨o4, ho4, hc4, hd4⟩ := hi4
  k_steps
  refine wpAny_pyIter_enum he4 ?_
  generalize hE : h3.objs.size + 1 = e at *
  generalize hI : h3.objs.size = it at *
  have hfe' : s.heap.get? e = none := by rw [← hE]; exact hfe
  clear F3 N3
  refine forA_inv b.size (LwJ s e it b t start ts) ?_ ?_ b.size 0 _ rfl (Nat.zero_le _) ?_
  · rintro i s' hi ⟨h, tk, m, old, o2, tw, rfl, F5, N5, hc2, hd2, hw, hs⟩
    have hit5 : KBw.IsBytesIter h it b t i := ⟨o2, N5.get (.tail _ (.head _)), hc2, hd2⟩
    refine enum_turn (fp := [it]) hh (Draws_bytes (by exact hh) it b t) (N5.get (.head _)) hit5 hi (show @Ne Nat e it by omega) (nin1 (by omega)) fun x tx h6 tk6 hx he6 hi6 hk6 => ?_
    obtain ⟨old', he6⟩ := he6
    obtain ⟨o6, ho6, hc6, hd6⟩ := hi6
    obtain ⟨c, u, hc, rfl⟩ := hx
    have F6 := fr_but F5 hk6 (nin2 (by omega) (by omega)) (all2 hfe' hfi)
    have N6 : News s.heap s.heap.objs.size h6 [(e, enumO it ((i : Int) + 1) old'), (it, o6)] := news_cons he6 (by omega) hfe' (news_cons ho6 (by omega) hfi News.nil)
    clear F4 F5 N5
    dsimp only
    k_steps
    · rename Fr _ _ _ _ => F'
      rename News _ _ _ _ => N'
      rename (List.any _ _ = _) => hb
      rw [any_held] at hb
      refine ⟨_, _, _, old', o6, tw, rfl, F', news_sub N' (by simp), hc6, hd6, ?_, by with_unfolding_all exact hs⟩
      rw [worth_no hc (by simpa using hb)]
      with_unfolding_all exact hw
    · rename Fr _ _ _ _ => F'
      rename News _ _ _ _ => N'
      rename (List.any _ _ = _) => hb
      rw [any_held] at hb
      refine' ⟨_, _, _, old', o6, ?tok, rfl, F', news_sub N' (by simp), hc6, hd6, ?v, by with_unfolding_all exact hs⟩
      case v =>
        rw [worth_yes hc (by simpa using hb)]
        with_unfolding_all rfl
  · rintro s' ⟨h, tk, m, old, o2, tw, rfl, F5, N5, hc2, hd2, hw, hs⟩
    have hit5 : KBw.IsBytesIter h it b t b.size := ⟨o2, N5.get (.tail _ (.head _)), hc2, hd2⟩
    refine enum_done (fp := [it]) (Draws_bytes (by exact hh) it b t) (N5.get (.head _)) hit5 fun h6 hk6 => ?_
    have F6 := fr_but F5 hk6 (nin2 (by omega) (by omega)) (all2 hfe' hfi)
    clear F4 F5 N5
    have N6 := (News.nil : News s.heap s.heap.objs.size h6 [])
    refine wpAny_execs_nil ?_
    dsimp only [Ret]
    k_steps
    exact hQ _ _ _ F6.keep
  · exact ⟨_, _, _, _, o4, _, rfl, F4, news_cons he4 (by omega) hfe' (news_cons ho4 (by omega) hfi News.nil), hc4, hd4, by with_unfolding_all rfl, by with_unfolding_all rfl⟩
end
end
/-! BS -/
theorem fresh_BS : True ∧ True := by
  w_top off
  first
    | (walk1; done)
    | exact ⟨trivial, trivial⟩
section
set_option maxRecDepth 100000
set_option maxHeartbeats 4000000
section
variable {w : World} {A : Around} {E : Value → Shared → Prop} {s : Shared} {mean : ExcName → Option Value} {mg mb : Str → Option Value}
def BsJ (s : Shared) (I S : Addr) (data : Array UInt8) (t : Tok) (width k : Nat) (tw : Tok) (q : Nat) (s' : Shared) : Prop :=
  ∃ h tk m b, s' = { s with heap := h, toks := tk } ∧ Fr s.heap s.heap.objs.size h m ∧ News s.heap s.heap.objs.size h [(I, rangeO ((q * width : Nat) : Int) ((k : Int) - q) width), (S, baObj b)] ∧
      Part data b width q 0 ∧ m (Str.ofString "data") = some (.bytes data t) ∧ m (Str.ofString "width") = some (.int (width : Int) tw) ∧ m (Str.ofString "swapped_data") = some (.ref S)
def BsJ2 (s : Shared) (I I2 S : Addr) (data : Array UInt8) (t : Tok) (width k : Nat) (tw : Tok) (q : Nat) (ti : Tok) (j : Nat) (s' : Shared) : Prop :=
  ∃ h tk m b, s' = { s with heap := h, toks := tk } ∧ Fr s.heap s.heap.objs.size h m ∧ News s.heap s.heap.objs.size h [(I2, rangeO (j : Int) ((width : Int) - j) 1), (I, rangeO (((q + 1) * width : Nat) : Int) ((k : Int) - (q + 1 : Nat)) width), (S, baObj b)] ∧
      Part data b width q j ∧ m (Str.ofString "data") = some (.bytes data t) ∧ m (Str.ofString "width") = some (.int (width : Int) tw) ∧ m (Str.ofString "swapped_data") = some (.ref S) ∧ m (Str.ofString "i") = some (.int ((q * width : Nat) : Int) ti)
theorem byteswap_C {data : Array UInt8} {t tw : Tok} {width k : Nat} {Q : Value → Shared → Prop} (X : (hd.heap_39 w.params).In s.heap) (T : Top hd.view_39 (looseW hd.view_39 [Str.ofString "_filemode_table"]) mean mg mb s.heap)
    (hdp : A.depth + 2 < recursionLimit) (hh : A.handled = none) (hg : A.guards = some []) (hw : 0 < width) (hk : data.size = k * width) (hz : data.size ≤ 4096) (hz' : width ≤ 4096)
    (hQ : ∀ h' tk t', Kp s.heap h' → Q (.bytes (swp data width) t') { s with heap := h', toks := tk }) :
    wpC (model PySem.Challenge.rw_pg0089_01.row.prog w) A (call (.ref 21) [.bytes data t, .int (width : Int) tw]) Q E s := by
  revert X; k_fill; intro X
  refine' callC (binds := [(Str.ofString "data", .bytes data t), (Str.ofString "width", .int (width : Int) tw)]) X T (Nat.lt_of_le_of_lt (Nat.le_add_right _ _) hdp) ?ho ?hcd ?hb ?hl ?hc ?c1 ?c2 ?c3 ?_
  case ho => k_dflt k_is
  case hcd => k_dflt k_is
  case hb => rfl
  case hl => exact locs rfl
  case hc => decide
  case c1 => rfl
  case c2 => rfl
  case c3 => rfl
  intro h₁ F N X' T'
  refine wpC_execs_cons (wpC_Assign_Name (Call_C ?_))
  k_steps
  refine typeC1 (by rfl) (wpC_of_any ?_)
  k_steps
  refine call_bytearray (s := ⟨_, _, _, _, _⟩) hg (by omega) (by omega) ?_
  dsimp only
  intro h2 tk2 hS hk2 hz2
  rename Fr _ _ _ _ => F
  have F2 := fr_kp F hk2
  have N2 := news_more F N hk2 (Nat.le_refl _) hS
  generalize h₁.objs.size = S at *
  clear F N
  rw [Int.toNat_natCast] at N2
  k_steps
  refine wpC_of_any ?_
  rename Fr _ _ _ _ => F3
  rename News _ _ _ _ => N3
  refine wpAny_execs_cons ?_
  refine forA ?_
  dsimp only at *
  k_steps
  rename_i h4 tk4 t1 t2 t3 hr F4 N4 k4
  dsimp only at hr F4 N4
  rw [hk] at hr
  refine range_enter (s := ⟨h4, _, _, _, _⟩) hr (small_chunks hw (by omega) hz') (k : Int) (size_chunks hw) F4 N4 fun I h5 F5 N5 off => ?_
  dsimp only
  clear F4 N4
  have hSI : @Ne Nat S I := off _ (.head _)
  refine forA_inv k (BsJ s I S data t width k tw) ?_ ?_ k 0 _ rfl (Nat.zero_le _) ?_
  · rintro q s' hq ⟨h, tk, m, b, rfl, F6, N6, hP, hda, hwi, hsw⟩
    refine range_turn (s := ⟨h, _, _, _, _⟩) F6 N6 (by exact off) (by omega) fun h7 F7 N7 => ?_
    rw [show ((q * width : Nat) : Int) + (width : Int) = (((q + 1) * width : Nat) : Int) by rw [Nat.add_mul, Nat.one_mul]; rfl, show (k : Int) - (q : Int) - 1 = (k : Int) - ((q + 1 : Nat) : Int) by omega] at N7
    clear F5 N5 F6 N6
    dsimp only
    refine wpAny_stop ?_
    k_steps
    unfold Stop
    refine wpAny_execs_cons ?_
    refine forA ?_
    dsimp only at *
    k_steps
    rename_i h8 tk8 t4 t5 t6 hr8 F8 N8 k8
    dsimp only at hr8 F8 N8
    refine range_enter (s := ⟨h8, _, _, _, _⟩) hr8 (small_one (by decide) (by decide) (by omega) (by omega)) (width : Int) (by rw [rangeSize_one]; split <;> omega) F8 N8 fun I2 h9 F9 N9 off2 => ?_
    dsimp only
    clear F8 N8
    refine forA_inv width (BsJ2 s I I2 S data t width k tw q tk) ?_ ?_ width 0 _ rfl (Nat.zero_le _) ?_
    · rintro j s' hj ⟨h, tk', m, b, rfl, F6, N6, hP, hda, hwi, hsw, hi⟩
      refine range_turn (s := ⟨h, _, _, _, _⟩) F6 N6 (by exact off2) (by omega) fun h7 F7 N7 => ?_
      clear F9 N9 F6 N6
      dsimp only
      k_steps
      have hin : q * width + width ≤ data.size := by
        rw [hk]
        calc q * width + width = (q + 1) * width := by rw [Nat.add_mul, Nat.one_mul]
          _ ≤ k * width := Nat.mul_le_mul_right _ hq
      have hbz := hP.1
      refine bytes_item_K (x := data.toList) (k := ((data.getD (q * width + j) 0).toNat : Int)) (by simp only [Array.length_toList]; omega) (by omega) (by simp only [Array.length_toList]; omega) ?_ ?_
      · rw [show (((q * width : Nat) : Int) + (j : Int)).toNat = q * width + j by omega]
        simp [List.getD_eq_getElem?_getD, Array.getD_eq_getD_getElem?]
      k_steps
      rename Fr _ _ _ _ => F8
      rename News _ _ _ _ => N8
      dsimp only
      obtain ⟨hS8, hSL, hS0⟩ := N8 _ (.tail _ (.tail _ (.head _)))
      have hI2 : @Ne Nat S I2 := off2 _ (.tail _ (.head _))
      refine setItem_ba (s := ⟨_, _, _, _, _⟩) hS8 (by omega) (by omega) (by omega) (by have := (data.getD (q * width + j) 0).toNat_lt; omega) (by omega) fun h9 hS9 hk9 => ?_
      have F9 := fr_but F8 (same_but hk9) (nin1 (Ne.symm hSL)) (all1 hS0)
      obtain ⟨g1, g2, g3⟩ := N8 _ (.head _)
      obtain ⟨g4, g5, g6⟩ := N8 _ (.tail _ (.head _))
      have N9 := news_cons (hk9.extBut _ _ (Ne.symm hI2) g1) g2 g3 (news_cons (hk9.extBut _ _ (Ne.symm hSI) g4) g5 g6 (news_one hS9 hSL hS0))
      rw [show (((q * width : Nat) : Int) + (width : Int) - 1 - (j : Int)).toNat = q * width + (width - 1 - j) by omega, Int.toNat_natCast, show (data.getD (q * width + j) 0).toNat.toUInt8 = data.getD (q * width + j) 0 from UInt8.ofNat_toNat] at N9
      clear F8 N8
      dsimp only
      k_steps
      refine ⟨_, _, _, _, rfl, F9, ?_, part_step hP hq hj hk, by with_unfolding_all exact hda, by with_unfolding_all exact hwi, by with_unfolding_all exact hsw, by with_unfolding_all exact hi⟩
      rw [show (width : Int) - (j : Int) - 1 = (width : Int) - ((j + 1 : Nat) : Int) by omega] at N9
      exact N9
    · rintro s' ⟨h, tk', m, b, rfl, F6, N6, hP, hda, hwi, hsw, hi⟩
      refine range_done (s := ⟨h, _, _, _, _⟩) hh F6 N6 (by exact off2) (by omega) fun h7 F7 N7 => ?_
      clear F9 N9 F6 N6
      refine wpAny_execs_nil ?_
      dsimp only [Ret]
      refine wpAny_execs_nil ?_
      exact ⟨_, _, _, _, rfl, F7, N7, part_done hP, hda, hwi, hsw⟩
    · exact ⟨_, _, _, _, rfl, F9, by simpa using N9, hP, by with_unfolding_all exact hda, by with_unfolding_all exact hwi, by with_unfolding_all exact hsw, by with_unfolding_all rfl⟩
  · rintro s' ⟨h, tk, m, b, rfl, F6, N6, hP, hda, hwi, hsw⟩
    refine range_done (s := ⟨h, _, _, _, _⟩) hh F6 N6 (by exact off) (by omega) fun h7 F7 N7 => ?_
    clear F5 N5 F6 N6
    refine wpAny_execs_nil ?_
    dsimp only [Ret]
    have hbz := hP.1
    have hbe := part_end hP hk
    k_steps
    rename Fr _ _ _ _ => F8
    rename News _ _ _ _ => N8
    refine call_bytes_ba (s := ⟨_, _, _, _, _⟩) (N8.get (.head _)) (by omega) fun t9 k9 => ?_
    dsimp only
    rw [hbe]
    k_steps
    exact hQ _ _ _ F8.keep
  · refine ⟨_, _, _, _, rfl, F5, by simpa using N5, ⟨by simp, fun p hp => by omega, fun p h1 h2 => by omega⟩, by with_unfolding_all rfl, by with_unfolding_all rfl, by with_unfolding_all rfl⟩
end
end
/-! LR -/
theorem fresh_LR : True ∧ True := by
  w_top off
  first
    | (walk1; done)
    | exact ⟨trivial, trivial⟩
section
set_option maxRecDepth 100000
set_option maxHeartbeats 4000000
section
variable {w : World} {mean : ExcName → Option Value} {mg mb : Str → Option Value}
theorem stop_call {P : Prop} (h : Stop P) : P := h
local macro_rules | `(tactic| walk_at "call ref") => `(tactic| (k_here; (with_reducible show wpAny _ _ (call (Value.ref 80) _) _ _ _); (refine stop_call ?_)))

theorem lawrows_A : ∀ (k noes ayes : Nat), noes + ayes = k → k ≤ 6 → ∀ {A : Around} {E : Value → Shared → Prop} {s : Shared} {tn ta : Tok} {Q : Value → Shared → Prop}, (hd.heap_39 w.params).In s.heap → Top hd.view_39 (looseW hd.view_39 [Str.ofString "_filemode_table"]) mean mg mb s.heap →
    A.depth + k + 2 < recursionLimit → A.handled = none →
    (∀ h' tk l vs n, Kp s.heap h' → s.heap.get? l = none → h'.get? l = some (W.listOf vs.toArray n) → IntsAre vs ((rowsF k noes ayes).map Int.ofNat) → Q (.ref l) { s with heap := h', toks := tk }) →
    wpAny (model PySem.Challenge.rw_pg0089_01.row.prog w) A (call (.ref 80) [.int (noes : Int) tn, .int (ayes : Int) ta]) Q E s := by
  intro k
  induction k using Nat.strongRecOn with
  | ind k ih =>
    intro noes ayes hk hk6 A E s tn ta Q X T hdp hh hQ
    revert X; k_fill; intro X
    refine' callA (binds := [(Str.ofString "noes", .int (noes : Int) tn), (Str.ofString "ayes", .int (ayes : Int) ta)]) X T (by omega) ?ho ?hcd ?hb ?hl ?hc ?c1 ?c2 ?c3 ?_
    case ho => k_dflt k_is
    case hcd => k_dflt k_is
    case hb => rfl
    case hl => exact locs rfl
    case hc => decide
    case c1 => rfl
    case c2 => rfl
    case c3 => rfl
    intro h₁ F N X' T'
    k_steps
    · rename_i hz l' h' F2 N2 _
      have ez : noes = 0 := by omega
      subst ez
      refine hQ _ _ _ [_] _ F2.keep (N2 _ (.head _)).2.2 (N2 _ (.head _)).1 ?_
      have e : (2 ^ (ayes : Int).toNat - 1 : Int) = Int.ofNat (2 ^ ayes - 1) := by
        rw [Int.toNat_natCast]
        have := Nat.two_pow_pos ayes
        rw [Int.ofNat_eq_natCast, Int.natCast_sub this]; norm_cast
      rw [e]
      cases k <;> exact .cons _ _ .nil
    · rename_i hz' _ hz l' h' F2 N2 _
      have ez : ayes = 0 := by omega
      subst ez
      obtain ⟨n', rfl⟩ : ∃ n', noes = n' + 1 := ⟨noes - 1, by omega⟩
      refine hQ _ _ _ [_] _ F2.keep (N2 _ (.head _)).2.2 (N2 _ (.head _)).1 ?_
      cases k <;> exact .cons _ _ .nil
    obtain ⟨n', rfl⟩ : ∃ n', noes = n' + 1 := ⟨noes - 1, by omega⟩
    obtain ⟨a', rfl⟩ : ∃ a', ayes = a' + 1 := ⟨ayes - 1, by omega⟩
    obtain ⟨k, rfl⟩ : ∃ k', k = k' + 1 := ⟨k - 1, by omega⟩
    rename Fr _ _ _ _ => F2
    rename News _ _ _ _ => N2
    unfold Stop
    rw [show (((n' + 1 : Nat) : Int)) - 1 = (n' : Int) by omega]
    refine ih k (by omega) n' (a' + 1) (by omega) (by omega) (Frag.In.keeps X' F2.keep) (Top.keeps T' F2.keep) (by simp only [Around.deeper]; omega) (by simpa only [Around.deeper] using hh) fun h3 tk3 l vs nl hk3 hl3 ho3 hi3 => ?_
    have F3 := fr_kp F2 hk3
    have N3 := news_more2 F2 N2 hk3 hl3 ho3
    clear F2 N2
    dsimp only
    k_steps
    have hlen := ints_length hi3
    rw [List.length_map] at hlen
    have hrl := rows_len (n := n') (a := a' + 1) (k := k) (by omega) (by omega)
    refine compA_list (s := ⟨h3, _, _, _, _⟩) (G := fun v y => ∃ n t t', v = .int n t ∧ y = .int (2 * n) t') (by exact hh) F3 N3 ⟨_, ho3, rfl, _, rfl⟩ (by rw [hlen, PySem.sizeLine_eq]; omega) ?_ ?_
    · intro C v s₃ m₃ E' hv hn hm hk
      obtain ⟨n, t, _, rfl⟩ := ints_mem hi3 hv
      exact wpAny_BinOp (wpAny_Constant_int (wpAny_Name (wpAny_loadName_local rfl rfl hn hm (mul_int ⟨⟨n, t, _, rfl, rfl⟩, _, _, rfl, fun _ _ e => e⟩ (IntMulOk.of_left (by decide))))))
    intro D1 h4 tk4 ys1 nn1 hp1 F4 N4
    have hi4 := ints_paired hi3 hp1
    rw [map2] at hi4
    have hlen1 := ints_length hi4
    simp only [List.length_map] at hlen1
    clear F3 N3 hi3 hlen hp1 ho3
    dsimp only
    change Fr s.heap s.heap.objs.size h4 _ at F4
    change News s.heap s.heap.objs.size h4 _ at N4
    k_steps
    unfold Stop
    rw [show (((a' + 1 : Nat) : Int)) - 1 = (a' : Int) by omega]
    refine ih k (by omega) (n' + 1) a' (by omega) (by omega) (Frag.In.keeps X' F4.keep) (Top.keeps T' F4.keep) (by simp only [Around.deeper]; omega) (by simpa only [Around.deeper] using hh) fun h5 tk5 l5 vs5 nl5 hk5 hl5 ho5 hi5 => ?_
    have F5 := fr_kp F4 hk5
    have N5 := news_more2 F4 N4 hk5 hl5 ho5
    clear F4 N4
    dsimp only
    k_steps
    have hlen := ints_length hi5
    rw [List.length_map] at hlen
    have hrl5 := rows_len (n := n' + 1) (a := a') (k := k) (by omega) (by omega)
    refine compA_list (s := ⟨h5, _, _, _, _⟩) (G := fun v y => ∃ n t t', v = .int n t ∧ y = .int (2 * n + 1) t') (by exact hh) F5 N5 ⟨_, ho5, rfl, _, rfl⟩ (by rw [hlen, PySem.sizeLine_eq]; omega) ?_ ?_
    · intro C v s₃ m₃ E' hv hn hm hk
      obtain ⟨n, t, _, rfl⟩ := ints_mem hi5 hv
      exact wpAny_BinOp (wpAny_BinOp (wpAny_Constant_int (wpAny_Name (wpAny_loadName_local rfl rfl hn hm (mul_int (wpAny_Constant_int (add_int ⟨⟨n, t, _, rfl, rfl⟩, _, _, rfl, fun _ _ e => e⟩)) (IntMulOk.of_left (by decide)))))))
    intro D2 h6 tk6 ys2 nn2 hp2 F6 N6
    have hi6 := ints_paired hi5 hp2
    rw [map21] at hi6
    have hlen2 := ints_length hi6
    simp only [List.length_map] at hlen2
    clear F5 N5 hi5 hlen hp2 ho5
    dsimp only
    change Fr s.heap s.heap.objs.size h6 _ at F6
    change News s.heap s.heap.objs.size h6 _ at N6
    k_steps
    dsimp only
    rename_i hI' _
    rename Fr _ _ _ _ => F7
    rename News _ _ _ _ => N7
    refine hQ _ _ _ _ _ F7.keep (N7 _ (.head _)).2.2 (N7 _ (.head _)).1 ?_
    simp only [rowsF, List.map_append, List.map_drop, List.map_take] at hI' ⊢
    exact hI'
end
end
/-! LM -/
theorem fresh_LM : True ∧ True := by
  w_top off
  first
    | (walk1; done)
    | exact ⟨trivial, trivial⟩
section
set_option maxRecDepth 100000
set_option maxHeartbeats 4000000
section
variable {w : World} {A : Around} {E : Value → Shared → Prop} {s : Shared} {mean : ExcName → Option Value} {mg mb : Str → Option Value}
def heldL (l : List UInt8) : List Value := l.map fun c => .bool (held c.toNat)
def LmJ (s : Shared) (I H : Addr) (nn : Nat) (row : List UInt8) (t : Tok) (i : Nat) (s' : Shared) : Prop :=
  ∃ h tk m tc, s' = { s with heap := h, toks := tk } ∧ Fr s.heap s.heap.objs.size h m ∧ News s.heap s.heap.objs.size h [(I, rangeO ((row.length : Int) - 3 - i) ((row.length : Int) - 2 - i) (-1)), (H, W.listOf (heldL row).toArray nn)] ∧
      m (Str.ofString "row") = some (.bytes row.toArray t) ∧ m (Str.ofString "held") = some (.ref H) ∧ m (Str.ofString "cut") = some (.int (cutTo row i : Nat) tc)
theorem lawmoved_C {row : List UInt8} {t : Tok} {Q : Value → Shared → Prop} (X : (hd.heap_39 w.params).In s.heap) (T : Top hd.view_39 (looseW hd.view_39 [Str.ofString "_filemode_table"]) mean mg mb s.heap)
    (hdp : A.depth + 4 < recursionLimit) (hh : A.handled = none) (hg : A.guards = some []) (hr : 3 ≤ row.length) (hr' : row.length ≤ 64)
    (hQ : ∀ h' tk t', Kp s.heap h' → Q (.bytes (movedOf row).toArray t') { s with heap := h', toks := tk }) :
    wpC (model PySem.Challenge.rw_pg0089_01.row.prog w) A (call (.ref 92) [.bytes row.toArray t]) Q E s := by
  revert X; k_fill; intro X
  refine' callC (binds := [(Str.ofString "row", .bytes row.toArray t)]) X T (by omega) ?ho ?hcd ?hb ?hl ?hc ?c1 ?c2 ?c3 ?_
  case ho => k_dflt k_is
  case hcd => k_dflt k_is
  case hb => rfl
  case hl => exact locs rfl
  case hc => decide
  case c1 => rfl
  case c2 => rfl
  case c3 => rfl
  intro h₁ F N X' T'
  refine nextC_stop ?_
  k_steps
  rename Fr _ _ _ _ => F1
  rename News _ _ _ _ => N1
  refine compA_bytes (s := ⟨h₁, _, _, _, _⟩) (fun c => .bool (held c.toNat)) (by exact hh) F1 N1 (by rw [List.size_toArray, PySem.sizeLine_eq]; omega) ?_ ?_
  · intro C c u s₃ m₃ E' hn hm
    exact notin3 rfl rfl rfl hn hm (by decide)
  intro H h2 tk2 nn F2 N2
  change Fr s.heap s.heap.objs.size h2 _ at F2
  change News s.heap s.heap.objs.size h2 [(H, W.listOf (heldL row).toArray nn)] at N2
  clear F1 N1
  dsimp only
  unfold Stop
  refine nextC_stop ?_
  k_steps
  unfold Stop
  refine wpC_next ?_
  refine forA ?_
  dsimp only at *
  k_steps
  rename_i h3 tk3 t1 t2 t3 hr3 F3 N3 k3
  dsimp only at hr3 F3 N3
  have hsz : row.toArray.size = row.length := List.size_toArray ..
  rw [hsz] at hr3 F3
  refine range_enter (s := ⟨h3, _, _, _, _⟩) hr3 (small_down (by omega) (by omega) (by decide) (by decide)) ((row.length : Int) - 2) (by rw [rangeSize_down]; split <;> omega) F3 N3 fun I h4 F4 N4 off => ?_
  dsimp only
  clear F3 N3
  refine forA_inv (row.length - 2) (LmJ s I H nn row t) ?_ ?_ (row.length - 2) 0 _ rfl (Nat.zero_le _) ?_
  · rintro i s' hi ⟨h, tk, m, tc, rfl, F5, N5, hrow, hheld, hcut⟩
    refine range_turn (s := ⟨h, _, _, _, _⟩) F5 N5 (by exact off) (by omega) fun h6 F6 N6 => ?_
    clear F4 N4 F5 N5
    dsimp only
    rw [show (row.length : Int) - 3 - (i : Int) = ((row.length - 3 - i : Nat) : Int) by omega]
    refine wpAny_stop ?_
    k_steps
    unfold Stop
    refine execs_stop (wpAny_If (wpAny_stop ?_))
    k_steps
    rename Fr _ _ _ _ => F7
    rename News _ _ _ _ => N7
    have hlist := N7.isList (.tail _ (.head _))
    have hx : ∀ j, j < row.length → (heldL row)[j]? = some (.bool (hs row j)) := fun j hj => by
      simp [heldL, hs, List.getElem?_map, List.getElem?_eq_getElem hj]
    refine item_listL hlist (by omega) (by omega) (hx _ (by omega)) ?_
    k_steps
    · rename_i hb1
      rw [show ((((row.length - 3 - i : Nat) : Int)) + 1).toNat = row.length - 3 - i + 1 by omega] at hb1
      refine item_listL hlist (by omega) (by omega) (hx _ (by omega)) ?_
      k_steps
      · rename_i hb2
        rw [Int.toNat_natCast] at hb2
        unfold Stop
        rw [if_neg (by decide)]
        refine wpAny_execs_nil ?_
        dsimp only [Stop]
        refine wpAny_execs_nil ?_
        refine ⟨_, _, _, tc, rfl, F7, ?_, by with_unfolding_all exact hrow, by with_unfolding_all exact hheld, ?_⟩
        · rw [show (row.length : Int) - 3 - (i : Int) + -1 = (row.length : Int) - 3 - ((i + 1 : Nat) : Int) by omega, show (row.length : Int) - 2 - (i : Int) - 1 = (row.length : Int) - 2 - ((i + 1 : Nat) : Int) by omega] at N7
          exact N7
        · rw [show cutTo row (i + 1) = cutTo row i by simp [cutTo, hb2]]
          with_unfolding_all exact hcut
      · rename_i hb2
        rw [Int.toNat_natCast] at hb2
        unfold Stop
        rw [if_pos rfl]
        dsimp only
        k_steps
        dsimp only [Stop]
        rename Fr _ _ _ _ => F8
        rename News _ _ _ _ => N8
        refine' ⟨_, _, _, ?tok, rfl, F8, ?nn, by with_unfolding_all exact hrow, by with_unfolding_all exact hheld, ?vv⟩
        case nn =>
          rw [show (row.length : Int) - 3 - (i : Int) + -1 = (row.length : Int) - 3 - ((i + 1 : Nat) : Int) by omega, show (row.length : Int) - 2 - (i : Int) - 1 = (row.length : Int) - 2 - ((i + 1 : Nat) : Int) by omega] at N8
          exact N8
        case vv =>
          rw [show ((cutTo row (i + 1) : Nat) : Int) = ((row.length - 3 - i : Nat) : Int) + 3 by simp [cutTo, hb1, hb2]]
          with_unfolding_all rfl
    · rename_i hb1
      rw [show ((((row.length - 3 - i : Nat) : Int)) + 1).toNat = row.length - 3 - i + 1 by omega] at hb1
      unfold Stop
      rw [if_neg (by decide)]
      refine wpAny_execs_nil ?_
      dsimp only [Stop]
      refine wpAny_execs_nil ?_
      refine ⟨_, _, _, tc, rfl, F7, ?_, by with_unfolding_all exact hrow, by with_unfolding_all exact hheld, ?_⟩
      · rw [show (row.length : Int) - 3 - (i : Int) + -1 = (row.length : Int) - 3 - ((i + 1 : Nat) : Int) by omega, show (row.length : Int) - 2 - (i : Int) - 1 = (row.length : Int) - 2 - ((i + 1 : Nat) : Int) by omega] at N7
        exact N7
      · rw [show cutTo row (i + 1) = cutTo row i by simp [cutTo, hb1]]
        with_unfolding_all exact hcut
  · rintro s' ⟨h, tk, m, tc, rfl, F5, N5, hrow, hheld, hcut⟩
    refine range_done (s := ⟨h, _, _, _, _⟩) hh F5 N5 (by exact off) (by omega) fun h6 F6 N6 => ?_
    clear F4 N4 F5 N5
    refine wpAny_execs_nil ?_
    dsimp only [Ret]
    have hcb := cutTo_bounds hr (row.length - 2) (Nat.le_refl _)
    change m (Str.ofString "cut") = some (.int (cutOf row : Nat) tc) at hcut
    change 3 ≤ cutOf row ∧ cutOf row ≤ row.length at hcb
    obtain ⟨ob, fd, hob, hfd⟩ : ∃ o fd, (hd.heap_39 w.params).lookup 21 = some o ∧ o.data = .func fd := ⟨_, _, rfl, rfl⟩
    refine wpC_execs_cons (wpC_Assign_Name (Call_C ?_))
    k_steps
    refine fnC2 (o := ob) hfd (by rfl) (wpC_of_any ?_)
    k_steps
    refine cut_slice (s := ⟨h6, _, _, _, _⟩) (b := row) (p := 0) (q := cutOf row) .none (.int _ _) (by omega) rfl (clip_in hcb.2) F6 N6 fun h7 t7 k7 F7 N7 => ?_
    clear F6 N6
    rw [List.drop_zero, Nat.sub_zero]
    dsimp only
    refine wpC_of_any ?_
    k_steps
    · exact F7.keep _ _ (X' _ _ hob)
    have F8 := F7
    have N8 := N7
    clear F7 N7
    have hlt : (row.take (cutOf row)).length = cutOf row := by rw [List.length_take]; omega
    refine byteswap_C (s := ⟨_, _, _, _, _⟩) (k := 1) (Frag.In.keeps X' F8.keep) (Top.keeps T' F8.keep) (by simp only [Around.deeper]; omega) (by exact hh) (by exact hg) (by omega) (by rw [List.size_toArray, hlt, Nat.one_mul]) (by rw [List.size_toArray, hlt]; omega) (by omega) fun h9 tk9 t9 k9 => ?_
    have esw := swp_one (l := row.take (cutOf row)) (by intro e; rw [e] at hlt; simp at hlt; omega)
    rw [hlt] at esw
    rw [esw]
    have F9 := fr_kp F8 k9
    have N9 := news_kp N8 k9
    clear F8 N8
    generalize hT : (row.take (cutOf row)).reverse = T
    have hTl : T.length = cutOf row := by rw [← hT, List.length_reverse, hlt]
    dsimp only
    k_steps
    rename_i h10 F10 N10
    refine wpC_execs_cons (wpC_Return_some (wpC_BinOp (wpC_BinOp (wpC_of_any ?_))))
    dsimp only
    k_steps
    refine cut_slice (s := ⟨h10, _, _, _, _⟩) (b := T) (p := 0) (q := 1) .none (.int _ _) (by omega) rfl (clip_in (k := 1) (by omega)) F10 N10 fun h11 t11 k11 F11 N11 => ?_
    clear F10 N10
    rw [List.drop_zero, Nat.sub_zero]
    refine Call_C ?_
    dsimp only
    k_steps
    refine fnC2 (o := ob) hfd (by rfl) (wpC_of_any ?_)
    k_steps
    refine cut_slice (s := ⟨h11, _, _, _, _⟩) (b := T) (p := 1) (q := T.length) (.int _ _) .none (by omega) (clip_in (k := 1) (by omega)) rfl F11 N11 fun h12 t12 k12 F12 N12 => ?_
    clear F11 N11
    have hTd : (T.drop 1).length = T.length - 1 := List.length_drop ..
    rw [show (T.drop 1).take (T.length - 1) = T.drop 1 from List.take_of_length_le (by omega)]
    refine wpC_of_any ?_
    dsimp only
    k_steps
    · exact F12.keep _ _ (X' _ _ hob)
    rw [show ((cutOf row : Nat) : Int) - 1 = ((cutOf row - 1 : Nat) : Int) by omega]
    refine byteswap_C (s := ⟨_, _, _, _, _⟩) (k := 1) (Frag.In.keeps X' F12.keep) (Top.keeps T' F12.keep) (by simp only [Around.deeper]; omega) (by exact hh) (by exact hg) (by omega) (by rw [List.size_toArray]; omega) (by rw [List.size_toArray]; omega) (by omega) fun h13 tk13 t13 k13 => ?_
    have esw2 := swp_one (l := T.drop 1) (by intro e; rw [e] at hTd; simp at hTd; omega)
    rw [hTd, hTl] at esw2
    rw [esw2]
    have F13 := fr_kp F12 k13
    have N13 := news_kp N12 k13
    clear F12 N12
    dsimp only
    refine KBy.add_bytes (by simp only [List.size_toArray, List.length_take, List.length_reverse]; omega) fun t14 k14 => ?_
    refine wpC_of_any ?_
    dsimp only
    k_steps
    refine cut_slice (s := ⟨h13, _, _, _, _⟩) (b := row) (p := cutOf row) (q := row.length) (.int _ _) .none (by omega) (clip_in hcb.2) rfl F13 N13 fun h15 t15 k15 F15 N15 => ?_
    clear F13 N13
    rw [show (row.drop (cutOf row)).take (row.length - cutOf row) = row.drop (cutOf row) from List.take_of_length_le (by rw [List.length_drop]; omega)]
    refine KBy.add_bytes (by simp only [Array.size_append, List.size_toArray, List.length_take, List.length_reverse, List.length_drop]; omega) fun t16 k16 => ?_
    dsimp only
    have e : ((T.take 1).toArray ++ (T.drop 1).reverse.toArray ++ (row.drop (cutOf row)).toArray : Array UInt8) = (movedOf row).toArray := by
      simp [movedOf, hT]
    rw [e]
    exact hQ _ _ _ F15.keep
  · exact ⟨_, _, _, _, rfl, F4, by simpa using N4, by with_unfolding_all rfl, by with_unfolding_all rfl, by with_unfolding_all rfl⟩
end
end
/-! LD -/
theorem fresh_LD : True ∧ True := by
  w_top off
  first
    | (walk1; done)
    | exact ⟨trivial, trivial⟩
section
set_option maxRecDepth 100000
set_option maxHeartbeats 4000000
def fnBody : Stmt → List Stmt
  | .FunctionDef _ _ b _ _ _ _ _ _ _ => b
  | _ => []
def fnScope : Stmt → Scope
  | .FunctionDef _ _ _ _ _ _ sc _ _ _ => sc
  | _ => { kind := .function, names := [], isGenerator := false, isCoroutine := false }
def lastOf : List Stmt → Stmt
  | [] => .Pass ⟨0, 0, 0, 0⟩
  | [s] => s
  | _ :: r => lastOf r
def lawFn : Stmt := lastOf PySem.Challenge.pw_pg0089_01.main.body
def lawScope : Scope := fnScope lawFn
def nthOf : Nat → List Stmt → Stmt
  | _, [] => .Pass ⟨0, 0, 0, 0⟩
  | 0, s :: _ => s
  | n + 1, _ :: r => nthOf n r
def lawSt (k : Nat) : Stmt := nthOf k (fnBody lawFn)
def forBody : Stmt → List Stmt
  | .For _ _ b _ _ => b
  | _ => []
/-- the k-th statement of the loop's body -/
def lawB (k : Nat) : Stmt := nthOf k (forBody (lawSt 13))
end
/-! LS -/
theorem fresh_LS : True ∧ True := by
  w_top off
  first
    | (walk1; done)
    | exact ⟨trivial, trivial⟩
section
set_option maxRecDepth 100000
set_option maxHeartbeats 4000000
section
variable {w : World} {A : Around} {E : Value → Shared → Prop} {s : Shared} {mean : ExcName → Option Value} {mg mb : Str → Option Value}
theorem news_two {h₀ h : Heap} {L : Addr} {news : List (Addr × Obj)} {p q : Addr × Obj} (N : News h₀ L h news) (hp : p ∈ news) (hq : q ∈ news) : News h₀ L h [p, q] := by
  intro r hr
  rcases List.mem_cons.mp hr with rfl | hr
  · exact N _ hp
  rcases List.mem_cons.mp hr with rfl | hr
  · exact N _ hq
  · cases hr
def Lst (s : Shared) (news : List (Addr × Obj)) (P : (Str → Option Value) → Prop) (s' : Shared) : Prop :=
  ∃ h tk m, s' = { s with heap := h, toks := tk } ∧ Fr s.heap s.heap.objs.size h m ∧ News s.heap s.heap.objs.size h news ∧ P m
def Cells2 (s : Shared) (cl : Addr) (oc : Obj) (f : Flow) (s' : Shared) : Prop :=
  f = .next ∧ ∃ D x y tx ty n', x < 1000000 ∧ y < 1000000 ∧ Lst s [(D, W.listOf #[.int ((x : Nat) : Int) tx, .int ((y : Nat) : Int) ty] n'), (cl, oc)] (fun m => m (Str.ofString "cells") = some (.ref D)) s'
theorem st1 {fa cl D2 : Addr} {cd : Value} {oc : Obj} {nn : Nat} {ys : List Value} {ds : List Int} {s₁ : Shared} (X : (hd.heap_39 w.params).In s.heap) (T : Top hd.view_39 (looseW hd.view_39 [Str.ofString "_filemode_table"]) mean mg mb s.heap) (hi : IntsAre ys ds) (hlen : ds.length ≤ 2) (hd : ∀ d ∈ ds, 0 ≤ d ∧ d < 1000000)
    (h : Lst s [(D2, W.listOf ys.toArray nn), (cl, oc)] (fun m => m (Str.ofString "drawn") = some (.ref D2)) s₁) :
    wpC (model PySem.Challenge.rw_pg0089_01.row.prog w) A (exec (lawSt 1) (envOfC (Str.ofString "law") lawScope s.heap.objs.size fa cd)) (Cells2 s cl oc) NoE s₁ := by
  revert X; k_fill; intro X
  refine wpC_of_any ?_
  conv in (lawSt _) => whnf
  conv in lawScope => whnf; zeta
  obtain ⟨h1, tk1, m, rfl, F, N, hm⟩ := h
  cases hi with
  | nil =>
    k_steps
    all_goals (try k_data)
    rename Fr _ _ _ _ => F'
    rename News _ _ _ _ => N'
    exact ⟨rfl, _, 0, 2, _, _, _, by decide, by decide, _, _, _, rfl, F', news_two N' (.head _) (by simp), by with_unfolding_all rfl⟩
  | cons a ta hi =>
    obtain ⟨a0, a1⟩ := hd a (.head _)
    obtain ⟨x, rfl⟩ := Int.eq_ofNat_of_zero_le a0
    cases hi with
    | nil =>
      k_steps
      all_goals (try k_data)
      rename Fr _ _ _ _ => F'
      rename News _ _ _ _ => N'
      exact ⟨rfl, _, x, 2, _, _, _, by omega, by decide, _, _, _, rfl, F', news_two N' (.head _) (by simp), by with_unfolding_all rfl⟩
    | cons b tb hi =>
      obtain ⟨b0, b1⟩ := hd b (.tail _ (.head _))
      obtain ⟨y, rfl⟩ := Int.eq_ofNat_of_zero_le b0
      cases hi with
      | nil =>
        k_steps
        all_goals (try k_data)
        rename Fr _ _ _ _ => F'
        rename News _ _ _ _ => N'
        exact ⟨rfl, _, x, y, _, _, _, by omega, by omega, _, _, _, rfl, F', news_two N' (.head _) (by simp), by with_unfolding_all rfl⟩
      | cons _ _ _ => simp at hlen
end
end
/-! LN -/
theorem fresh_LN : True ∧ True := by
  w_top off
  first
    | (walk1; done)
    | exact ⟨trivial, trivial⟩
section
set_option maxRecDepth 100000
set_option maxHeartbeats 4000000
def HasI (m : Str → Option Value) (x : Str) (v : Int) : Prop := ∃ t, m x = some (.int v t)
theorem fmodN {a b : Int} {n k : Nat} (ha : a = n) (hb : b = k) : a.fmod b = ((n % k : Nat) : Int) := by
  subst ha hb
  rw [Int.fmod_eq_emod_of_nonneg _ (Int.natCast_nonneg k)]; norm_cast
theorem fdivN {a b : Int} {n k : Nat} (ha : a = n) (hb : b = k) : a.fdiv b = ((n / k : Nat) : Int) := by
  subst ha hb
  rw [Int.fdiv_eq_ediv_of_nonneg _ (Int.natCast_nonneg k)]; norm_cast
section
variable {w : World} {A : Around} {E : Value → Shared → Prop} {s : Shared} {mean : ExcName → Option Value} {mg mb : Str → Option Value}
def Two (D : Addr) (x y : Nat) (tx ty : Tok) (n' : Nat) (cl : Addr) (oc : Obj) : List (Addr × Obj) := [(D, W.listOf #[.int ((x : Nat) : Int) tx, .int ((y : Nat) : Int) ty] n'), (cl, oc)]
def P2 (D : Addr) (md : Nat) (m : Str → Option Value) : Prop := m (Str.ofString "cells") = some (.ref D) ∧ HasI m (Str.ofString "mode") md
def nx (P : Shared → Prop) (f : Flow) (s' : Shared) : Prop := f = .next ∧ P s'
theorem st2 {fa cl D : Addr} {cd : Value} {oc : Obj} {n' x y : Nat} {tx ty : Tok} {s₁ : Shared} (X : (hd.heap_39 w.params).In s.heap) (T : Top hd.view_39 (looseW hd.view_39 [Str.ofString "_filemode_table"]) mean mg mb s.heap)
    (h : Lst s (Two D x y tx ty n' cl oc) (fun m => m (Str.ofString "cells") = some (.ref D)) s₁) :
    wpC (model PySem.Challenge.rw_pg0089_01.row.prog w) A (exec (lawSt 2) (envOfC (Str.ofString "law") lawScope s.heap.objs.size fa cd)) (nx (Lst s (Two D x y tx ty n' cl oc) (P2 D ((x + 35242) % 65536)))) NoE s₁ := by
  revert X; k_fill; intro X
  refine wpC_of_any ?_
  conv in (lawSt _) => whnf
  conv in lawScope => whnf; zeta
  obtain ⟨h1, tk1, m, rfl, F, N, hm⟩ := h
  unfold Two at N ⊢
  k_steps
  all_goals (try k_data)
  rename Fr _ _ _ _ => F'
  rename News _ _ _ _ => N'
  refine ⟨rfl, _, _, _, rfl, F', N', by with_unfolding_all exact hm, ?_⟩
  rw [← fmodN (a := (x : Int) + 35242) (b := 65536) (by omega) rfl]
  exact ⟨_, by with_unfolding_all rfl⟩
def P3 (D : Addr) (md sz : Nat) (m : Str → Option Value) : Prop := m (Str.ofString "cells") = some (.ref D) ∧ HasI m (Str.ofString "mode") md ∧ HasI m (Str.ofString "size") sz
theorem st3 {fa cl D : Addr} {cd : Value} {oc : Obj} {n' x y md : Nat} {tx ty : Tok} {s₁ : Shared} (X : (hd.heap_39 w.params).In s.heap) (T : Top hd.view_39 (looseW hd.view_39 [Str.ofString "_filemode_table"]) mean mg mb s.heap)
    (h : Lst s (Two D x y tx ty n' cl oc) (P2 D md) s₁) :
    wpC (model PySem.Challenge.rw_pg0089_01.row.prog w) A (exec (lawSt 3) (envOfC (Str.ofString "law") lawScope s.heap.objs.size fa cd)) (nx (Lst s (Two D x y tx ty n' cl oc) (P3 D md (5 + y % 2)))) NoE s₁ := by
  revert X; k_fill; intro X
  refine wpC_of_any ?_
  conv in (lawSt _) => whnf
  conv in lawScope => whnf; zeta
  obtain ⟨h1, tk1, m, rfl, F, N, hm, ⟨t1, hm1⟩⟩ := h
  unfold Two at N ⊢
  k_steps
  all_goals (try k_data)
  rename Fr _ _ _ _ => F'
  rename News _ _ _ _ => N'
  refine ⟨rfl, _, _, _, rfl, F', N', by with_unfolding_all exact hm, ⟨_, by with_unfolding_all exact hm1⟩, ?_⟩
  have e : ((5 + y % 2 : Nat) : Int) = 5 + (y : Int).fmod 2 := by rw [fmodN (b := 2) (n := y) (k := 2) rfl rfl]; norm_cast
  rw [e]
  exact ⟨_, by with_unfolding_all rfl⟩
def P4 (md sz st : Nat) (m : Str → Option Value) : Prop := HasI m (Str.ofString "mode") md ∧ HasI m (Str.ofString "size") sz ∧ HasI m (Str.ofString "start") st
theorem st4 {fa cl D : Addr} {cd : Value} {oc : Obj} {n' x y md sz : Nat} {tx ty : Tok} {s₁ : Shared} (X : (hd.heap_39 w.params).In s.heap) (T : Top hd.view_39 (looseW hd.view_39 [Str.ofString "_filemode_table"]) mean mg mb s.heap) (hsz : sz = 5 ∨ sz = 6)
    (h : Lst s (Two D x y tx ty n' cl oc) (P3 D md sz) s₁) :
    wpC (model PySem.Challenge.rw_pg0089_01.row.prog w) A (exec (lawSt 4) (envOfC (Str.ofString "law") lawScope s.heap.objs.size fa cd)) (nx (Lst s [(cl, oc)] (P4 md sz (y / 2 % (10 - sz))))) NoE s₁ := by
  revert X; k_fill; intro X
  refine wpC_of_any ?_
  conv in (lawSt _) => whnf
  conv in lawScope => whnf; zeta
  obtain ⟨h1, tk1, m, rfl, F, N, hm, ⟨t1, hm1⟩, ⟨t2, hm2⟩⟩ := h
  unfold Two at N
  rcases hsz with rfl | rfl
  all_goals
    k_steps
    all_goals (try k_data)
    rename Fr _ _ _ _ => F'
    rename News _ _ _ _ => N'
    refine ⟨rfl, _, _, _, rfl, F', news_tl N', ⟨_, by with_unfolding_all exact hm1⟩, ⟨_, by with_unfolding_all exact hm2⟩, ?_⟩
  · rw [← fmodN (a := (y : Int).fdiv 2) (b := 5) (fdivN rfl rfl) rfl]
    exact ⟨_, by with_unfolding_all rfl⟩
  · rw [← fmodN (a := (y : Int).fdiv 2) (b := 4) (fdivN rfl rfl) rfl]
    exact ⟨_, by with_unfolding_all rfl⟩
end
end
/-! LO -/
theorem fresh_LO : True ∧ True := by
  w_top off
  first
    | (walk1; done)
    | exact ⟨trivial, trivial⟩
section
set_option maxRecDepth 100000
set_option maxHeartbeats 4000000
section
variable {w : World} {A : Around} {E : Value → Shared → Prop} {s : Shared} {mean : ExcName → Option Value} {mg mb : Str → Option Value}
theorem rshift_512 {prog : Program} {x y : Nat} {t u : Tok} {Q : Value → Shared → Prop} (h : Q (.int ((512 / 2 ^ (x + y) : Nat) : Int) s.toks) { s with toks := s.toks + 1 }) :
    wpAny (model prog w) A (binaryOp .RShift (.int 512 t) (.int ((x : Int) + (y : Int)) u)) Q E s := by
  refine rshift_c (by omega) ?_ h
  rw [show ((x : Int) + (y : Int)).toNat = x + y by omega, Int.fdiv_eq_ediv_of_nonneg _ (by exact Int.le_of_lt (Int.pow_pos (by decide)))]
  norm_cast
local macro_rules | `(tactic| walk_at "binaryOp RShift int int") => `(tactic| (k_here; (refine' rshift_512 ?_)))
local macro_rules | `(tactic| walk_at "binaryOp FloorDiv int int") => `(tactic| (k_here; (refine' floordiv_c ?ra ?rb ?rc ?_; (case ra => omega); (case rb => rfl); (case rc => exact PyProof.noPylong_small (by omega)))))
def P5 (md sz st lw : Nat) (m : Str → Option Value) : Prop := HasI m (Str.ofString "mode") md ∧ HasI m (Str.ofString "size") sz ∧ HasI m (Str.ofString "start") st ∧ HasI m (Str.ofString "low") lw
theorem st5 {fa cl : Addr} {cd : Value} {oc : Obj} {md sz st : Nat} {s₁ : Shared} (X : (hd.heap_39 w.params).In s.heap) (T : Top hd.view_39 (looseW hd.view_39 [Str.ofString "_filemode_table"]) mean mg mb s.heap)
    (h : Lst s [(cl, oc)] (P4 md sz st) s₁) :
    wpC (model PySem.Challenge.rw_pg0089_01.row.prog w) A (exec (lawSt 5) (envOfC (Str.ofString "law") lawScope s.heap.objs.size fa cd)) (nx (Lst s [(cl, oc)] (P5 md sz st (512 / 2 ^ (st + sz))))) NoE s₁ := by
  revert X; k_fill; intro X
  refine wpC_of_any ?_
  conv in (lawSt _) => whnf
  conv in lawScope => whnf; zeta
  obtain ⟨h1, tk1, m, rfl, F, N, ⟨t1, hm1⟩, ⟨t2, hm2⟩, ⟨t3, hm3⟩⟩ := h
  k_steps
  all_goals (try k_data)
  rename Fr _ _ _ _ => F'
  rename News _ _ _ _ => N'
  exact ⟨rfl, _, _, _, rfl, F', N', ⟨_, by with_unfolding_all exact hm1⟩, ⟨_, by with_unfolding_all exact hm2⟩, ⟨_, by with_unfolding_all exact hm3⟩, ⟨_, by with_unfolding_all rfl⟩⟩
def cellO (v : Int) (o : Obj) : Prop := ∃ t, o.data = .cell (some (.int v t))
theorem cellO_of {v z : Int} {t : Tok} {o : Obj} (hv : o.data = .cell (some (.int z t))) (e : z = v) : cellO v o := ⟨t, e ▸ hv⟩
theorem st6 {fa cl : Addr} {cd : Value} {oc : Obj} {md sz st lw : Nat} {s₁ : Shared} {v₀ : Option Value} (X : (hd.heap_39 w.params).In s.heap) (T : Top hd.view_39 (looseW hd.view_39 [Str.ofString "_filemode_table"]) mean mg mb s.heap) (hcl : cl = s.heap.objs.size + 1) (hoc : oc.data = .cell v₀) (hsz : sz = 5 ∨ sz = 6) (hlw : 0 < lw ∧ lw ≤ 512)
    (h : Lst s [(cl, oc)] (P5 md sz st lw) s₁) :
    wpC (model PySem.Challenge.rw_pg0089_01.row.prog w) A (exec (lawSt 6) (envOfC (Str.ofString "law") lawScope s.heap.objs.size fa cd)) (nx fun s' => ∃ oc', cellO ((md / lw % 2 ^ sz : Nat) : Int) oc' ∧ Lst s [(cl, oc')] (P5 md sz st lw) s') NoE s₁ := by
  revert X; k_fill; intro X
  refine wpC_of_any ?_
  conv in (lawSt _) => whnf
  conv in lawScope => whnf; zeta
  subst hcl
  obtain ⟨h1, tk1, m, rfl, F, N, ⟨t1, hm1⟩, ⟨t2, hm2⟩, ⟨t3, hm3⟩, ⟨t4, hm4⟩⟩ := h
  rcases hsz with rfl | rfl
  all_goals
    k_steps
    all_goals (try k_data)
  · rename Fr _ _ _ _ => F'
    rename News _ _ _ _ => N'
    rename_i hv
    refine ⟨rfl, _, cellO_of hv (fmodN (k := 2 ^ 5) (fdivN rfl rfl) rfl), _, _, _, rfl, F', N', ⟨_, by with_unfolding_all exact hm1⟩, ⟨_, by with_unfolding_all exact hm2⟩, ⟨_, by with_unfolding_all exact hm3⟩, ⟨_, by with_unfolding_all exact hm4⟩⟩
  · rename Fr _ _ _ _ => F'
    rename News _ _ _ _ => N'
    rename_i hv
    refine ⟨rfl, _, cellO_of hv (fmodN (k := 2 ^ 6) (fdivN rfl rfl) rfl), _, _, _, rfl, F', N', ⟨_, by with_unfolding_all exact hm1⟩, ⟨_, by with_unfolding_all exact hm2⟩, ⟨_, by with_unfolding_all exact hm3⟩, ⟨_, by with_unfolding_all exact hm4⟩⟩
end
end
/-! LP -/
theorem fresh_LP : True ∧ True := by
  w_top off
  first
    | (walk1; done)
    | exact ⟨trivial, trivial⟩
section
set_option maxRecDepth 100000
set_option maxHeartbeats 4000000
section
variable {w : World} {A : Around} {E : Value → Shared → Prop} {s : Shared} {mean : ExcName → Option Value} {mg mb : Str → Option Value}
def P7 (md sz st lw : Nat) (fx : Int) (m : Str → Option Value) : Prop := HasI m (Str.ofString "mode") md ∧ HasI m (Str.ofString "size") sz ∧ HasI m (Str.ofString "start") st ∧ HasI m (Str.ofString "low") lw ∧ HasI m (Str.ofString "fixed") fx
theorem st7 {fa cl : Addr} {cd : Value} {oc : Obj} {md sz st lw pic : Nat} {s₁ : Shared} (X : (hd.heap_39 w.params).In s.heap) (T : Top hd.view_39 (looseW hd.view_39 [Str.ofString "_filemode_table"]) mean mg mb s.heap) (hcl : cl = s.heap.objs.size + 1) (hoc : cellO (pic : Int) oc) (hlw : lw ≤ 512) (hp : pic < 64)
    (h : Lst s [(cl, oc)] (P5 md sz st lw) s₁) :
    wpC (model PySem.Challenge.rw_pg0089_01.row.prog w) A (exec (lawSt 7) (envOfC (Str.ofString "law") lawScope s.heap.objs.size fa cd)) (nx (Lst s [(cl, oc)] (P7 md sz st lw ((md : Int) - lw * pic)))) NoE s₁ := by
  revert X; k_fill; intro X
  refine wpC_of_any ?_
  conv in (lawSt _) => whnf
  conv in lawScope => whnf; zeta
  subst hcl
  obtain ⟨tc, hoc⟩ := hoc
  obtain ⟨h1, tk1, m, rfl, F, N, ⟨t1, hm1⟩, ⟨t2, hm2⟩, ⟨t3, hm3⟩, ⟨t4, hm4⟩⟩ := h
  k_steps
  all_goals (try k_data)
  rename Fr _ _ _ _ => F'
  rename News _ _ _ _ => N'
  exact ⟨rfl, _, _, _, rfl, F', N', ⟨_, by with_unfolding_all exact hm1⟩, ⟨_, by with_unfolding_all exact hm2⟩, ⟨_, by with_unfolding_all exact hm3⟩, ⟨_, by with_unfolding_all exact hm4⟩, ⟨_, by with_unfolding_all rfl⟩⟩
def P8 (md sz st lw : Nat) (fx kp : Int) (m : Str → Option Value) : Prop := HasI m (Str.ofString "mode") md ∧ HasI m (Str.ofString "size") sz ∧ HasI m (Str.ofString "start") st ∧ HasI m (Str.ofString "low") lw ∧ HasI m (Str.ofString "fixed") fx ∧ HasI m (Str.ofString "keep") kp
theorem st8 {fa cl : Addr} {cd : Value} {oc : Obj} {md sz st lw : Nat} {fx : Int} {s₁ : Shared} (X : (hd.heap_39 w.params).In s.heap) (T : Top hd.view_39 (looseW hd.view_39 [Str.ofString "_filemode_table"]) mean mg mb s.heap) (hsz : sz = 5 ∨ sz = 6) (hlw : lw ≤ 512)
    (h : Lst s [(cl, oc)] (P7 md sz st lw fx) s₁) :
    wpC (model PySem.Challenge.rw_pg0089_01.row.prog w) A (exec (lawSt 8) (envOfC (Str.ofString "law") lawScope s.heap.objs.size fa cd)) (nx (Lst s [(cl, oc)] (P8 md sz st lw fx (4095 - (lw : Int) * (2 ^ sz - 1))))) NoE s₁ := by
  revert X; k_fill; intro X
  refine wpC_of_any ?_
  conv in (lawSt _) => whnf
  conv in lawScope => whnf; zeta
  obtain ⟨h1, tk1, m, rfl, F, N, ⟨t1, hm1⟩, ⟨t2, hm2⟩, ⟨t3, hm3⟩, ⟨t4, hm4⟩, ⟨t5, hm5⟩⟩ := h
  rcases hsz with rfl | rfl
  all_goals
    k_steps
    all_goals (try k_data)
    rename Fr _ _ _ _ => F'
    rename News _ _ _ _ => N'
    exact ⟨rfl, _, _, _, rfl, F', N', ⟨_, by with_unfolding_all exact hm1⟩, ⟨_, by with_unfolding_all exact hm2⟩, ⟨_, by with_unfolding_all exact hm3⟩, ⟨_, by with_unfolding_all exact hm4⟩, ⟨_, by with_unfolding_all exact hm5⟩, ⟨_, by with_unfolding_all rfl⟩⟩
end
end
/-! LQ -/
theorem fresh_LQ : True ∧ True := by
  w_top off
  first
    | (walk1; done)
    | exact ⟨trivial, trivial⟩
section
set_option maxRecDepth 100000
set_option maxHeartbeats 4000000
section
variable {w : World} {A : Around} {E : Value → Shared → Prop} {s : Shared} {mean : ExcName → Option Value} {mg mb : Str → Option Value}
theorem sum_kp {prog : Program} {l : Addr} {items : Array Value} {ns : List Int} {Q : Value → Shared → Prop} (hh : A.handled = none) (hl : s.heap.IsList l items) (hi : IntsAre items.toList ns)
    (h : ∀ h' tk t', Kp s.heap h' → Q (.int ns.sum t') { s with heap := h', toks := tk }) : wpAny (model prog w) A (call (.builtin "sum") [.ref l]) Q E s := by
  have hall : AllInts items := by simpa using hi.allInts
  have hn := hi.numsOf
  obtain ⟨xs, rfl⟩ := hall.items
  rw [nums_intItems] at hn
  refine sum_intListG hh hl fun h' tk t' hk => ?_
  have := h h' tk t' hk
  rw [preSum_eq, List.take_of_length_le (by simp), hn]; exact this
theorem floordiv_w {prog : Program} {x : Int} {j : Nat} {t u : Tok} {Q : Value → Shared → Prop} (hx : 0 ≤ x ∧ x < 64 ∧ j ≤ 6) (h : Q (.int (x.fdiv (2 ^ j)) s.toks) { s with toks := s.toks + 1 }) :
    wpAny (model prog w) A (binaryOp .FloorDiv (.int x t) (.int (2 ^ j) u)) Q E s := by
  have : (0 : Int) < 2 ^ j := Int.pow_pos (by decide)
  have : (2 : Int) ^ j ≤ 64 := by
    have := Nat.pow_le_pow_right (n := 2) (by decide) hx.2.2
    exact_mod_cast this
  refine floordiv_c (by omega) rfl (PyProof.noPylong_small (by omega)) h
local macro_rules | `(tactic| walk_at "binaryOp FloorDiv int int") => `(tactic| (k_here; (refine' floordiv_w ?ra ?_; (case ra => omega))))
local macro_rules | `(tactic| walk_at "CompSrc") => `(tactic| (k_here; (refine stop_call ?_)))
local macro_rules | `(tactic| walk_at "call builtin:sum") => `(tactic| (k_here; (refine stop_call ?_)))
def sumI (sz pic : Nat) : Int := (List.map (fun k : Int => ((pic : Int).fdiv (2 ^ k.toNat)).fmod 2) (rangeKs 0 sz)).sum
theorem okS5 : ((List.range 32).all fun p => sumI 5 p == (popB 5 p : Int)) = true := by decide +kernel
theorem okS6 : ((List.range 64).all fun p => sumI 6 p == (popB 6 p : Int)) = true := by decide +kernel
theorem sum_pop {sz pic : Nat} (hsz : sz = 5 ∨ sz = 6) (hp : pic < 2 ^ sz) : (List.map (fun k : Int => ((pic : Int).fdiv (2 ^ k.toNat)).fmod 2) (rangeKs 0 sz)).sum = (popB sz pic : Int) := by
  rcases hsz with rfl | rfl
  · exact beq_iff_eq.mp (List.all_eq_true.mp okS5 pic (List.mem_range.mpr hp))
  · exact beq_iff_eq.mp (List.all_eq_true.mp okS6 pic (List.mem_range.mpr hp))
def P9 (md sz st lw : Nat) (fx kp : Int) (ay : Nat) (m : Str → Option Value) : Prop := P8 md sz st lw fx kp m ∧ HasI m (Str.ofString "ayes") ay
theorem st9 {fa cl : Addr} {cd : Value} {oc : Obj} {md sz st lw pic : Nat} {fx kp : Int} {s₁ : Shared} (X : (hd.heap_39 w.params).In s.heap) (T : Top hd.view_39 (looseW hd.view_39 [Str.ofString "_filemode_table"]) mean mg mb s.heap) (hh : A.handled = none) (hcl : cl = s.heap.objs.size + 1) (hoc : cellO (pic : Int) oc) (hsz : sz = 5 ∨ sz = 6) (hp : pic < 2 ^ sz)
    (h : Lst s [(cl, oc)] (P8 md sz st lw fx kp) s₁) :
    wpC (model PySem.Challenge.rw_pg0089_01.row.prog w) A (exec (lawSt 9) (envOfC (Str.ofString "law") lawScope s.heap.objs.size fa cd)) (nx (Lst s [(cl, oc)] (P9 md sz st lw fx kp (popB sz pic)))) NoE s₁ := by
  revert X; k_fill; intro X
  refine wpC_of_any ?_
  conv in (lawSt _) => whnf
  conv in lawScope => whnf; zeta
  subst hcl
  obtain ⟨tc, hoc⟩ := hoc
  have hp64 : pic < 64 := by rcases hsz with rfl | rfl <;> omega
  obtain ⟨h1, tk1, m, rfl, F, N, ⟨t1, hm1⟩, ⟨t2, hm2⟩, ⟨t3, hm3⟩, ⟨t4, hm4⟩, ⟨t5, hm5⟩, ⟨t6, hm6⟩⟩ := h
  k_steps
  all_goals (try k_data)
  unfold Stop
  rename Fr _ _ _ _ => F2
  rename News _ _ _ _ => N2
  rename IsRange _ _ _ _ _ _ _ _ => hr
  refine LCg.CompSrc.range (n := sz) hh F2 N2 hr ?_ ?_ ?_ ?_
  · rcases hsz with rfl | rfl <;> decide
  · rcases hsz with rfl | rfl <;> rfl
  · rw [PySem.sizeLine_eq]; omega
  intro g'
  refine kcf_range (fun k => ((pic : Int).fdiv (2 ^ k.toNat)).fmod 2) (fun k t I oI C oC D m₂ ys h tk E' hlo hhi hC hx F N off ne mk => ?_) ?_
  · simp only [LCg.Off3, and_true] at off
    k_steps
    all_goals (try k_data)
  unfold KPfDone
  intro ys hi
  clear F2 N2
  k_steps
  all_goals (try k_data)
  rename Fr _ _ _ _ => F3
  rename News _ _ _ _ => N3
  unfold Stop
  refine sum_kp hh (N3.isList (.head _)) (by exact hi) fun h4 tk4 t4 hk4 => ?_
  rw [sum_pop hsz hp]
  have F4 := fr_kp F3 hk4
  have N4 := news_kp (news_tl N3) hk4
  clear F3 N3
  dsimp only
  k_steps
  all_goals (try k_data)
  rename Fr _ _ _ _ => F'
  rename News _ _ _ _ => N'
  exact ⟨rfl, _, _, _, rfl, F', N', ⟨⟨_, by with_unfolding_all exact hm1⟩, ⟨_, by with_unfolding_all exact hm2⟩, ⟨_, by with_unfolding_all exact hm3⟩, ⟨_, by with_unfolding_all exact hm4⟩, ⟨_, by with_unfolding_all exact hm5⟩, ⟨_, by with_unfolding_all exact hm6⟩⟩, ⟨_, by with_unfolding_all rfl⟩⟩
end
end
/-! LU -/
theorem fresh_LU : True ∧ True := by
  w_top off
  first
    | (walk1; done)
    | exact ⟨trivial, trivial⟩
section
set_option maxRecDepth 100000
set_option maxHeartbeats 4000000
section
variable {w : World} {A : Around} {E : Value → Shared → Prop} {s : Shared} {mean : ExcName → Option Value} {mg mb : Str → Option Value}
local macro_rules | `(tactic| walk_at "call ref") => `(tactic| (k_here; (with_reducible show wpAny _ _ (call (Value.ref 80) _) _ _ _); (refine stop_call ?_)))
local macro_rules | `(tactic| walk_at "call builtin:list.index") => `(tactic| (k_here; (refine stop_call ?_)))
local macro_rules | `(tactic| walk_at "unpackItems ref") => `(tactic| (k_here; (refine stop_call ?_)))
def P10 (md sz st lw : Nat) (fx kp : Int) (D : Addr) (m : Str → Option Value) : Prop := P8 md sz st lw fx kp m ∧ m (Str.ofString "rows") = some (.ref D)
theorem st10 {fa cl : Addr} {cd : Value} {oc : Obj} {md sz st lw ay : Nat} {fx kp : Int} {s₁ : Shared} (X : (hd.heap_39 w.params).In s.heap) (T : Top hd.view_39 (looseW hd.view_39 [Str.ofString "_filemode_table"]) mean mg mb s.heap) (hh : A.handled = none) (hdp : A.depth + 9 < recursionLimit) (hsz : sz = 5 ∨ sz = 6) (ha : ay ≤ sz)
    (h : Lst s [(cl, oc)] (P9 md sz st lw fx kp ay) s₁) :
    wpC (model PySem.Challenge.rw_pg0089_01.row.prog w) A (exec (lawSt 10) (envOfC (Str.ofString "law") lawScope s.heap.objs.size fa cd)) (nx fun s' => ∃ D vs n, IntsAre vs ((rowsF sz (sz - ay) ay).map Int.ofNat) ∧ Lst s [(D, W.listOf vs.toArray n), (cl, oc)] (P10 md sz st lw fx kp D) s') NoE s₁ := by
  revert X; k_fill; intro X
  refine wpC_of_any ?_
  conv in (lawSt _) => whnf
  conv in lawScope => whnf; zeta
  obtain ⟨h1, tk1, m, rfl, F, N, ⟨⟨t1, hm1⟩, ⟨t2, hm2⟩, ⟨t3, hm3⟩, ⟨t4, hm4⟩, ⟨t5, hm5⟩, ⟨t6, hm6⟩⟩, t7, hm7⟩ := h
  k_steps
  all_goals (try k_data)
  unfold Stop
  rename Fr _ _ _ _ => F2
  rename News _ _ _ _ => N2
  rw [show (sz : Int) - (ay : Int) = ((sz - ay : Nat) : Int) by omega]
  refine lawrows_A sz (sz - ay) ay (by omega) (by omega) (Frag.In.keeps X F2.keep) (Top.keeps T F2.keep) (by omega) hh fun h3 tk3 l vs nl hk3 hl3 ho3 hi3 => ?_
  have F3 := fr_kp F2 hk3
  have N3 := news_more2 F2 N2 hk3 hl3 ho3
  clear F2 N2
  dsimp only
  k_steps
  all_goals (try k_data)
  rename Fr _ _ _ _ => F'
  rename News _ _ _ _ => N'
  exact ⟨rfl, _, _, _, hi3, _, _, _, rfl, F', N', ⟨⟨_, by with_unfolding_all exact hm1⟩, ⟨_, by with_unfolding_all exact hm2⟩, ⟨_, by with_unfolding_all exact hm3⟩, ⟨_, by with_unfolding_all exact hm4⟩, ⟨_, by with_unfolding_all exact hm5⟩, ⟨_, by with_unfolding_all exact hm6⟩⟩, by with_unfolding_all rfl⟩
def P11 (md sz st lw : Nat) (fx kp : Int) (D : Addr) (fi : Nat) (m : Str → Option Value) : Prop := P8 md sz st lw fx kp m ∧ m (Str.ofString "rows") = some (.ref D) ∧ HasI m (Str.ofString "first") fi
theorem idx_map {l : List Nat} {p : Nat} : (l.map Int.ofNat).idxOf (p : Int) = l.idxOf p := by
  induction l with
  | nil => rfl
  | cons a l ih =>
    rw [List.map_cons, List.idxOf_cons, List.idxOf_cons, ih]
    have : (Int.ofNat a == (p : Int)) = (a == p) := by rw [Bool.eq_iff_iff]; simp only [beq_iff_eq]; exact Int.ofNat_inj
    rw [this]
theorem index_kp {prog : Program} {l : Addr} {vs : List Value} {n : Nat} {rs : List Nat} {p : Nat} {t : Tok} {Q : Value → Shared → Prop} (ho : s.heap.get? l = some (W.listOf vs.toArray n)) (hi : IntsAre vs (rs.map Int.ofNat)) (hl : rs.length ≤ 64) (hp : p ∈ rs)
    (h : Q (.int (rs.idxOf p : Nat) s.toks) { s with toks := s.toks + 1 }) : wpAny (model prog w) A (call (.builtin "list.index") [.ref l, .int (p : Int) t]) Q E s := by
  have hlen := hi.length
  rw [List.length_map] at hlen
  have hp' : (p : Int) ∈ rs.map Int.ofNat := List.mem_map.mpr ⟨p, hp, rfl⟩
  have hj : (rs.map Int.ofNat).idxOf (p : Int) < (rs.map Int.ofNat).length := List.idxOf_lt_length_iff.mpr hp'
  have hj2 : (rs.map Int.ofNat).idxOf (p : Int) < rs.length := by simpa using hj
  rw [← idx_map] at h
  refine call_meets PySem.F.slot_list_index ⟨_, ho, rfl⟩ PySem.F.entry_list_index (PySem.F.args_list_index_2 _ _)
    (PySem.SeqAt.list_indexAt l vs.toArray n none #[] (.int p t) (isInt p) ((rs.map Int.ofNat).idxOf (p : Int)) (by simpa [hlen] using hj2) (by omega) ?_ ?_) ⟨ho, fun y hy => (eq_isInt p t hi y (by simpa using hy)).at _ _, h⟩
  · show isInt p vs[(rs.map Int.ofNat).idxOf (p : Int)] = true
    rw [isInt_at p hi _ (by omega) hj]
    simpa using List.getElem_idxOf hj
  · intro j hjs hlt
    show isInt p vs[j] = false
    rw [isInt_at p hi j (by simpa using hjs) (by omega)]
    exact ne_of_lt_idxOf hlt _
theorem st11 {fa cl D : Addr} {cd : Value} {oc : Obj} {md sz st lw pic n : Nat} {fx kp : Int} {vs : List Value} {rs : List Nat} {s₁ : Shared} (X : (hd.heap_39 w.params).In s.heap) (T : Top hd.view_39 (looseW hd.view_39 [Str.ofString "_filemode_table"]) mean mg mb s.heap) (hh : A.handled = none) (hcl : cl = s.heap.objs.size + 1) (hoc : cellO (pic : Int) oc)
    (hi : IntsAre vs (rs.map Int.ofNat)) (hl : rs.length ≤ 20) (hp : pic ∈ rs)
    (h : Lst s [(D, W.listOf vs.toArray n), (cl, oc)] (P10 md sz st lw fx kp D) s₁) :
    wpC (model PySem.Challenge.rw_pg0089_01.row.prog w) A (exec (lawSt 11) (envOfC (Str.ofString "law") lawScope s.heap.objs.size fa cd)) (nx (Lst s [(D, W.listOf vs.toArray n), (cl, oc)] (P11 md sz st lw fx kp D (rs.idxOf pic)))) NoE s₁ := by
  revert X; k_fill; intro X
  refine wpC_of_any ?_
  conv in (lawSt _) => whnf
  conv in lawScope => whnf; zeta
  subst hcl
  obtain ⟨tc, hoc⟩ := hoc
  obtain ⟨h1, tk1, m, rfl, F, N, ⟨⟨t1, hm1⟩, ⟨t2, hm2⟩, ⟨t3, hm3⟩, ⟨t4, hm4⟩, ⟨t5, hm5⟩, ⟨t6, hm6⟩⟩, hm7⟩ := h
  k_steps
  all_goals (try k_data)
  unfold Stop
  rename Fr _ _ _ _ => F2
  rename News _ _ _ _ => N2
  refine index_kp (N2 _ (.head _)).1 hi (by omega) hp ?_
  dsimp only
  k_steps
  all_goals (try k_data)
  rename Fr _ _ _ _ => F'
  rename News _ _ _ _ => N'
  exact ⟨rfl, _, _, _, rfl, F', N', ⟨⟨_, by with_unfolding_all exact hm1⟩, ⟨_, by with_unfolding_all exact hm2⟩, ⟨_, by with_unfolding_all exact hm3⟩, ⟨_, by with_unfolding_all exact hm4⟩, ⟨_, by with_unfolding_all exact hm5⟩, ⟨_, by with_unfolding_all exact hm6⟩⟩, by with_unfolding_all exact hm7, ⟨_, by with_unfolding_all rfl⟩⟩
def P12 (md sz st lw : Nat) (fx kp : Int) (D K : Addr) (fi : Nat) (now : Nat) (m : Str → Option Value) : Prop := P8 md sz st lw fx kp m ∧ m (Str.ofString "rows") = some (.ref D) ∧ HasI m (Str.ofString "first") fi ∧ HasI m (Str.ofString "now") now ∧ m (Str.ofString "kept") = some (.ref K)
theorem st12 {fa cl D : Addr} {cd : Value} {oc oD : Obj} {md sz st lw fi : Nat} {fx kp : Int} {s₁ : Shared} (X : (hd.heap_39 w.params).In s.heap) (T : Top hd.view_39 (looseW hd.view_39 [Str.ofString "_filemode_table"]) mean mg mb s.heap) (hh : A.handled = none)
    (h : Lst s [(D, oD), (cl, oc)] (P11 md sz st lw fx kp D fi) s₁) :
    wpC (model PySem.Challenge.rw_pg0089_01.row.prog w) A (exec (lawSt 12) (envOfC (Str.ofString "law") lawScope s.heap.objs.size fa cd)) (nx fun s' => ∃ K n, @Ne Nat K D ∧ Lst s [(K, W.listOf #[] n), (D, oD), (cl, oc)] (P12 md sz st lw fx kp D K fi md) s') NoE s₁ := by
  revert X; k_fill; intro X
  refine wpC_of_any ?_
  conv in (lawSt _) => whnf
  conv in lawScope => whnf; zeta
  obtain ⟨h1, tk1, m, rfl, F, N, ⟨⟨t1, hm1⟩, ⟨t2, hm2⟩, ⟨t3, hm3⟩, ⟨t4, hm4⟩, ⟨t5, hm5⟩, ⟨t6, hm6⟩⟩, hm7, t8, hm8⟩ := h
  k_steps
  all_goals (try k_data)
  unfold Stop
  rename Fr _ _ _ _ => F2
  rename News _ _ _ _ => N2
  refine unpackItemsN_ F2 N2 (N2.isTup (.head _)) hh rfl ?_
  intro h3 F3 N3
  clear F2 N2
  k_steps
  all_goals (try k_data)
  rename Fr _ _ _ _ => F'
  rename News _ _ _ _ => N'
  rename D < _ ∧ _ => hlt
  exact ⟨rfl, _, _, Nat.ne_of_gt hlt.1, _, _, _, rfl, F', news_tl N', ⟨⟨_, by with_unfolding_all exact hm1⟩, ⟨_, by with_unfolding_all exact hm2⟩, ⟨_, by with_unfolding_all exact hm3⟩, ⟨_, by with_unfolding_all exact hm4⟩, ⟨_, by with_unfolding_all exact hm5⟩, ⟨_, by with_unfolding_all exact hm6⟩⟩, by with_unfolding_all exact hm7, ⟨_, by with_unfolding_all exact hm8⟩, ⟨_, by with_unfolding_all rfl⟩, by with_unfolding_all rfl⟩
end
end
/-! LV -/
theorem fresh_LV : True ∧ True := by
  w_top off
  first
    | (walk1; done)
    | exact ⟨trivial, trivial⟩
section
set_option maxRecDepth 100000
set_option maxHeartbeats 4000000
section
variable {w : World} {A : Around} {E : Value → Shared → Prop} {s : Shared} {mean : ExcName → Option Value} {mg mb : Str → Option Value}
local macro_rules | `(tactic| walk_at "call ref") => `(tactic| (k_here; (with_reducible show wpAny _ _ (call (Value.ref _) _) _ _ _); (refine stop_call ?_)))
def PL (md sz st lw : Nat) (fx kp : Int) (K : Addr) (now : Nat) (m : Str → Option Value) : Prop := P8 md sz st lw fx kp m ∧ HasI m (Str.ofString "now") now ∧ m (Str.ofString "kept") = some (.ref K)
def PLr (md sz st lw : Nat) (fx kp : Int) (K : Addr) (now r : Nat) (m : Str → Option Value) : Prop := PL md sz st lw fx kp K now m ∧ HasI m (Str.ofString "row") r
def PLt (md sz st lw : Nat) (fx kp : Int) (K : Addr) (now td : Nat) (m : Str → Option Value) : Prop := PL md sz st lw fx kp K now m ∧ HasI m (Str.ofString "told") td
def HasT (m : Str → Option Value) (n : Nat) : Prop := ∃ t, m (Str.ofString "text") = some (.str ⟨(codes n).toArray⟩ t)
theorem sb0 {fa I K R : Addr} {cd : Value} {oI oK oR : Obj} {md sz st lw now r td : Nat} {fx kp : Int} {s₁ : Shared} (X : (hd.heap_39 w.params).In s.heap) (T : Top hd.view_39 (looseW hd.view_39 [Str.ofString "_filemode_table"]) mean mg mb s.heap) (hlw : lw ≤ 512) (hr : r < 64) (hx : fx + (lw : Int) * (r : Int) = (td : Int))
    (h : Lst s [(I, oI), (K, oK), (R, oR)] (PLr md sz st lw fx kp K now r) s₁) :
    wpC (model PySem.Challenge.rw_pg0089_01.row.prog w) A (exec (lawB 0) (envOfC (Str.ofString "law") lawScope s.heap.objs.size fa cd)) (nx (Lst s [(I, oI), (K, oK), (R, oR)] (PLt md sz st lw fx kp K now td))) NoE s₁ := by
  revert X; k_fill; intro X
  refine wpC_of_any ?_
  conv in (lawB _) => whnf
  conv in lawScope => whnf; zeta
  obtain ⟨h1, tk1, m, rfl, F, N, ⟨⟨⟨t1, hm1⟩, ⟨t2, hm2⟩, ⟨t3, hm3⟩, ⟨t4, hm4⟩, ⟨t5, hm5⟩, ⟨t6, hm6⟩⟩, ⟨t7, hm7⟩, hm8⟩, ⟨t9, hm9⟩⟩ := h
  k_steps
  all_goals (try k_data)
  rename Fr _ _ _ _ => F'
  rename News _ _ _ _ => N'
  refine ⟨rfl, _, _, _, rfl, F', N', ⟨⟨⟨_, by with_unfolding_all exact hm1⟩, ⟨_, by with_unfolding_all exact hm2⟩, ⟨_, by with_unfolding_all exact hm3⟩, ⟨_, by with_unfolding_all exact hm4⟩, ⟨_, by with_unfolding_all exact hm5⟩, ⟨_, by with_unfolding_all exact hm6⟩⟩, ⟨_, by with_unfolding_all exact hm7⟩, by with_unfolding_all exact hm8⟩, ?_⟩
  rw [hx]
  exact ⟨_, by with_unfolding_all rfl⟩
theorem sb1 {fa I K R : Addr} {cd : Value} {oI oK oR : Obj} {md sz st lw now td : Nat} {fx kp : Int} {s₁ : Shared} (X : (hd.heap_39 w.params).In s.heap) (T : Top hd.view_39 (looseW hd.view_39 [Str.ofString "_filemode_table"]) mean mg mb s.heap) (hh : A.handled = none) (hdp : A.depth + 9 < recursionLimit) (hn : now < 65536)
    (h : Lst s [(I, oI), (K, oK), (R, oR)] (PLt md sz st lw fx kp K now td) s₁) :
    wpC (model PySem.Challenge.rw_pg0089_01.row.prog w) A (exec (lawB 1) (envOfC (Str.ofString "law") lawScope s.heap.objs.size fa cd)) (nx (Lst s [(I, oI), (K, oK), (R, oR)] (fun m => PLt md sz st lw fx kp K now td m ∧ HasT m now))) NoE s₁ := by
  revert X; k_fill; intro X
  refine wpC_of_any ?_
  conv in (lawB _) => whnf
  conv in lawScope => whnf; zeta
  obtain ⟨h1, tk1, m, rfl, F, N, ⟨⟨⟨t1, hm1⟩, ⟨t2, hm2⟩, ⟨t3, hm3⟩, ⟨t4, hm4⟩, ⟨t5, hm5⟩, ⟨t6, hm6⟩⟩, ⟨t7, hm7⟩, hm8⟩, ⟨t9, hm9⟩⟩ := h
  k_steps
  all_goals (try k_data)
  unfold Stop
  rename Fr _ _ _ _ => F2
  rename News _ _ _ _ => N2
  refine filemode_A (Frag.In.keeps X F2.keep) (Top.keeps T F2.keep) (by omega) hh hn fun h3 tk3 t3 hk3 => ?_
  rw [join_one]
  have F3 := fr_kp F2 hk3
  have N3 := news_kp N2 hk3
  clear F2 N2
  dsimp only
  k_steps
  all_goals (try k_data)
  rename Fr _ _ _ _ => F'
  rename News _ _ _ _ => N'
  exact ⟨rfl, _, _, _, rfl, F', N', ⟨⟨⟨⟨_, by with_unfolding_all exact hm1⟩, ⟨_, by with_unfolding_all exact hm2⟩, ⟨_, by with_unfolding_all exact hm3⟩, ⟨_, by with_unfolding_all exact hm4⟩, ⟨_, by with_unfolding_all exact hm5⟩, ⟨_, by with_unfolding_all exact hm6⟩⟩, ⟨_, by with_unfolding_all exact hm7⟩, by with_unfolding_all exact hm8⟩, ⟨_, by with_unfolding_all exact hm9⟩⟩, ⟨_, by with_unfolding_all rfl⟩⟩
theorem sb2 {fa I K R : Addr} {cd : Value} {oI oK oR : Obj} {md sz st lw now : Nat} {fx kp : Int} {s₁ : Shared} (X : (hd.heap_39 w.params).In s.heap) (T : Top hd.view_39 (looseW hd.view_39 [Str.ofString "_filemode_table"]) mean mg mb s.heap) (hh : A.handled = none) (hdp : A.depth + 9 < recursionLimit) (hn : now < 65536)
    (h : Lst s [(I, oI), (K, oK), (R, oR)] (fun m => PLt md sz st lw fx kp K now now m ∧ HasT m now) s₁) :
    wpC (model PySem.Challenge.rw_pg0089_01.row.prog w) A (exec (lawB 2) (envOfC (Str.ofString "law") lawScope s.heap.objs.size fa cd)) (nx (Lst s [(I, oI), (K, oK), (R, oR)] (fun m => PL md sz st lw fx kp K now m ∧ HasT m now))) NoE s₁ := by
  revert X; k_fill; intro X
  refine wpC_of_any ?_
  conv in (lawB _) => whnf
  conv in lawScope => whnf; zeta
  obtain ⟨h1, tk1, m, rfl, F, N, ⟨⟨⟨⟨t1, hm1⟩, ⟨t2, hm2⟩, ⟨t3, hm3⟩, ⟨t4, hm4⟩, ⟨t5, hm5⟩, ⟨t6, hm6⟩⟩, ⟨t7, hm7⟩, hm8⟩, ⟨t9, hm9⟩⟩, ⟨t10, hm10⟩⟩ := h
  k_steps
  all_goals (try k_data)
  · exact absurd rfl (by assumption)
  unfold Stop
  refine lawtext_A (Frag.In.keeps X F.keep) (Top.keeps T F.keep) (by omega) hh hn fun h3 tk3 t3 hk3 => ?_
  have F3 := fr_kp F hk3
  have N3 := news_kp N hk3
  clear F N
  dsimp only
  k_steps
  all_goals (try k_data)
  · rename (_ != _) = true => hb
    simp at hb
  exact ⟨rfl, _, _, _, rfl, F3, N3, ⟨⟨⟨_, by with_unfolding_all exact hm1⟩, ⟨_, by with_unfolding_all exact hm2⟩, ⟨_, by with_unfolding_all exact hm3⟩, ⟨_, by with_unfolding_all exact hm4⟩, ⟨_, by with_unfolding_all exact hm5⟩, ⟨_, by with_unfolding_all exact hm6⟩⟩, ⟨_, by with_unfolding_all exact hm7⟩, by with_unfolding_all exact hm8⟩, ⟨_, by with_unfolding_all exact hm10⟩⟩
end
end
/-! LX -/
theorem fresh_LX : True ∧ True := by
  w_top off
  first
    | (walk1; done)
    | exact ⟨trivial, trivial⟩
section
set_option maxRecDepth 100000
set_option maxHeartbeats 4000000
section
variable {w : World} {A : Around} {E : Value → Shared → Prop} {s : Shared} {mean : ExcName → Option Value} {mg mb : Str → Option Value}
local macro_rules | `(tactic| walk_at "call type:bytes") => `(tactic| (k_here; (refine stop_call ?_)))
local macro_rules | `(tactic| walk_at "call builtin:list.append") => `(tactic| (k_here; (refine' append_K ?k1 ?k2 ?k3 ?_ ?z; (case k1 => k_asm); (case k2 => k_asm); (case k3 => k_upd); (case z => (simp only [bvals, List.size_toArray, List.length_map]; rw [PySem.sizeLine_eq]; omega)); k_whole); intro h' F' N'))
theorem sb3 {fa I K R : Addr} {cd : Value} {oI oR : Obj} {nK : Nat} {ps : List (Array UInt8 × Tok)} {md sz st lw now : Nat} {fx kp : Int} {s₁ : Shared} (X : (hd.heap_39 w.params).In s.heap) (T : Top hd.view_39 (looseW hd.view_39 [Str.ofString "_filemode_table"]) mean mg mb s.heap) (hh : A.handled = none) (hdp : A.depth + 9 < recursionLimit) (hn : now < 65536) (hs9 : st + sz ≤ 9) (hps : ps.length ≤ 64) (hKI : @Ne Nat K I) (hKR : @Ne Nat K R)
    (h : Lst s [(I, oI), (K, W.listOf (bvals ps).toArray nK), (R, oR)] (fun m => PL md sz st lw fx kp K now m ∧ HasT m now) s₁) :
    wpC (model PySem.Challenge.rw_pg0089_01.row.prog w) A (exec (lawB 3) (envOfC (Str.ofString "law") lawScope s.heap.objs.size fa cd)) (nx fun s' => ∃ t n', Lst s [(I, oI), (K, W.listOf (bvals (ps ++ [((stretch now st sz).toArray, t)])).toArray n'), (R, oR)] (PL md sz st lw fx kp K now) s') NoE s₁ := by
  revert X; k_fill; intro X
  refine wpC_of_any ?_
  conv in (lawB _) => whnf
  conv in lawScope => whnf; zeta
  obtain ⟨h1, tk1, m, rfl, F, N, ⟨⟨⟨t1, hm1⟩, ⟨t2, hm2⟩, ⟨t3, hm3⟩, ⟨t4, hm4⟩, ⟨t5, hm5⟩, ⟨t6, hm6⟩⟩, ⟨t7, hm7⟩, hm8⟩, ⟨t9, hm9⟩⟩ := h
  k_steps
  all_goals (try k_data)
  rename Fr _ _ _ _ => F2
  rename News _ _ _ _ => N2
  dsimp only
  have esl := slice_codes (n := now) hs9
  generalize Txt.slice _ _ _ = y at esl ⊢
  have ysz : y.cps.size ≤ sizeLine := by
    have := congrArg List.length esl
    simp only [Array.length_toList, List.length_map, List.length_range] at this
    rw [this, PySem.sizeLine_eq]; omega
  refine compE_str (s := ⟨_, _, _, _, _⟩) (G := fun c z => ∃ t, z = .int (c : Int) t) hh F2 N2 ysz ?_ ?_
  · intro C c u s₃ m₃ E' hn3 hm3 hk
    refine Call_ (name_blt X T (fun b o e => hk b o (F2.keep b o e)) (by k_is) boot_ord ?_)
    show wpAny _ _ (callWith _ (.builtin "ord") [] [(false, eval (.Name _ _) _)] []) _ _ _
    exact callWith_builtin1 (wpAny_Name (wpAny_loadName_local rfl rfl hn3 hm3 (P.ord_of_char ⟨⟨_, rfl⟩, _, _, rfl, fun _ _ e => e⟩)))
  intro D h3 tk3 ys nn hp3 F3 N3
  have hi3 := ints_of_nats hp3
  rw [esl] at hi3
  clear F2 N2
  dsimp only
  k_steps
  all_goals (try k_data)
  unfold Stop
  refine bytes_K F3 N3 (N3.isList (.head _)) hi3 ?_ ?_ hh fun h4 t4 k4 F4 N4 _ => ?_
  · intro k hk
    obtain ⟨c, hc, rfl⟩ := List.mem_map.mp hk
    obtain ⟨j, _, rfl⟩ := List.mem_map.mp hc
    have := sign_lt (m := now) (p := st + j)
    exact ⟨Int.natCast_nonneg _, by show ((signAt now (st + j) : Nat) : Int) < 256; omega⟩
  · have := hi3.length
    simp only [List.length_map, List.length_range] at this
    rw [this, PySem.sizeLine_eq]; omega
  rw [octets_stretch]
  replace N4 := news_tl N4
  clear F3 N3
  dsimp only
  k_steps
  all_goals (try k_data)
  rename Fr _ _ _ _ => F5
  rename News _ _ _ _ => N5
  have e : (bvals ps).toArray.push (.bytes (stretch now st sz).toArray t4) = (bvals (ps ++ [((stretch now st sz).toArray, t4)])).toArray := by rw [List.push_toArray]; simp [bvals]
  rw [e] at N5
  exact ⟨rfl, t4, _, _, _, _, rfl, F5, N5, ⟨⟨_, by with_unfolding_all exact hm1⟩, ⟨_, by with_unfolding_all exact hm2⟩, ⟨_, by with_unfolding_all exact hm3⟩, ⟨_, by with_unfolding_all exact hm4⟩, ⟨_, by with_unfolding_all exact hm5⟩, ⟨_, by with_unfolding_all exact hm6⟩⟩, ⟨_, by with_unfolding_all exact hm7⟩, by with_unfolding_all exact hm8⟩
end
end
/-! LY -/
theorem fresh_LY : True ∧ True := by
  w_top off
  first
    | (walk1; done)
    | exact ⟨trivial, trivial⟩
section
set_option maxRecDepth 100000
set_option maxHeartbeats 4000000
section
variable {w : World} {A : Around} {E : Value → Shared → Prop} {s : Shared} {mean : ExcName → Option Value} {mg mb : Str → Option Value}
local macro_rules | `(tactic| walk_at "call ref") => `(tactic| (k_here; (with_reducible show wpAny _ _ (call (Value.ref _) _) _ _ _); (refine stop_call ?_)))
theorem item_last {prog : Program} {value slice : Expr} {l : Addr} {vs : List Value} {x : Value} {u : Tok} {Q : Value → Shared → Prop} (hl : s.heap.IsList l (vs ++ [x]).toArray) (h : Q x s)
    (hs : subscripted slice false (.ref l) (.int (-1) u) = operate [.ref l, .int (-1) u] (getItem (.ref l) (.int (-1) u)) := by with_unfolding_all rfl) (hg : ∀ r, letTemporaryGo value (.ref l) r = pure () := by intro _; with_unfolding_all rfl) :
    wpAny (model prog w) A (subscriptTail value slice (.ref l) (.int (-1) u)) Q E s := by
  refine subscriptTail_builtin hl.typeIs slot_list_getitem.lookup (wpAny_getItem_list_neg hl (by decide) ?_ (by decide) ?_ h) hs hg
  · rw [List.size_toArray, List.length_append, List.length_singleton]; omega
  · rw [List.size_toArray, List.length_append, List.length_singleton, show ((-1 : Int) + ((vs.length + 1 : Nat) : Int)).toNat = vs.length by omega]
    simp
theorem bvals_snoc (ps : List (Array UInt8 × Tok)) (p : Array UInt8 × Tok) : bvals (ps ++ [p]) = bvals ps ++ [.bytes p.1 p.2] := by simp [bvals]
theorem sb4 {fa I K R : Addr} {cd : Value} {oI oR : Obj} {nK : Nat} {ps : List (Array UInt8 × Tok)} {t : Tok} {md sz st lw now now' : Nat} {fx kp : Int} {s₁ : Shared} (X : (hd.heap_39 w.params).In s.heap) (T : Top hd.view_39 (looseW hd.view_39 [Str.ofString "_filemode_table"]) mean mg mb s.heap) (hh : A.handled = none) (hg : A.guards = some []) (hdp : A.depth + 9 < recursionLimit) (hs9 : st + sz ≤ 9) (hs3 : 3 ≤ sz) (hps : ps.length ≤ 64) (hKI : @Ne Nat K I) (hKR : @Ne Nat K R)
    (hnow : Builtin.bitAnd (now : Int) 61440 + Builtin.bitAnd (Builtin.bitAnd (now : Int) 4095) kp + ((worthTo (movedOf (stretch now st sz)).toArray st (movedOf (stretch now st sz)).toArray.size : Nat) : Int) = (now' : Int))
    (h : Lst s [(I, oI), (K, W.listOf (bvals (ps ++ [((stretch now st sz).toArray, t)])).toArray nK), (R, oR)] (PL md sz st lw fx kp K now) s₁) :
    wpC (model PySem.Challenge.rw_pg0089_01.row.prog w) A (exec (lawB 4) (envOfC (Str.ofString "law") lawScope s.heap.objs.size fa cd)) (nx (Lst s [(I, oI), (K, W.listOf (bvals (ps ++ [((stretch now st sz).toArray, t)])).toArray nK), (R, oR)] (PL md sz st lw fx kp K now'))) NoE s₁ := by
  revert X; k_fill; intro X
  conv in (lawB _) => whnf
  conv in lawScope => whnf; zeta
  obtain ⟨h1, tk1, m, rfl, F, N, ⟨⟨t1, hm1⟩, ⟨t2, hm2⟩, ⟨t3, hm3⟩, ⟨t4, hm4⟩, ⟨t5, hm5⟩, ⟨t6, hm6⟩⟩, ⟨t7, hm7⟩, hm8⟩ := h
  obtain ⟨ob, fd, hob, hfd⟩ : ∃ o fd, (hd.heap_39 w.params).lookup 92 = some o ∧ o.data = .func fd := ⟨_, _, rfl, rfl⟩
  obtain ⟨ow, fw, how, hfw⟩ : ∃ o fd, (hd.heap_39 w.params).lookup 99 = some o ∧ o.data = .func fd := ⟨_, _, rfl, rfl⟩
  refine wpC_Assign_Name (wpC_BinOp (wpC_of_any ?_))
  k_steps
  all_goals (try k_data)
  unfold Stop
  rename Fr _ _ _ _ => F2
  rename News _ _ _ _ => N2
  refine ifmt_A (Frag.In.keeps X F2.keep) (Top.keeps T F2.keep) (by omega) fun h3 tk3 t3 hk3 => ?_
  have F3 := fr_kp F2 hk3
  have N3 := news_kp N2 hk3
  clear F2 N2
  dsimp only
  k_steps
  all_goals (try k_data)
  unfold Stop
  rename Fr _ _ _ _ => F2
  rename News _ _ _ _ => N2
  refine imode_A (Frag.In.keeps X F2.keep) (Top.keeps T F2.keep) (by omega) fun h4 tk4 t4 hk4 => ?_
  have F4 := fr_kp F2 hk4
  have N4 := news_kp N2 hk4
  clear F2 N2
  dsimp only
  k_steps
  all_goals (try k_data)
  dsimp only
  refine Call_C ?_
  k_steps
  all_goals (try k_data)
  refine fnC2 (o := ow) hfw (by rfl) (Call_C ?_)
  k_steps
  all_goals (try k_data)
  refine fnC1 (o := ob) hfd (by rfl) (wpC_of_any ?_)
  k_steps
  all_goals (try k_data)
  have hlist := N4.isList (.tail _ (.head _))
  rw [bvals_snoc] at hlist
  refine item_last (s := ⟨_, _, _, _, _⟩) hlist ⟨F4.keep _ _ (X _ _ hob), ?_⟩
  refine lawmoved_C (s := ⟨_, _, _, _, _⟩) (Frag.In.keeps X F4.keep) (Top.keeps T F4.keep) (by omega) hh hg (by rw [stretch_length]; exact hs3) (by rw [stretch_length]; omega) fun h5 tk5 t5' hk5 => ?_
  have F5 := fr_kp F4 hk5
  have N5 := news_kp N4 hk5
  clear hlist F4 N4
  dsimp only
  refine wpC_of_any ?_
  k_steps
  all_goals (try k_data)
  · exact F5.keep _ _ (X _ _ how)
  refine wpC_of_any ?_
  refine lawworth_A (s := ⟨_, _, _, _, _⟩) (Frag.In.keeps X F5.keep) (Top.keeps T F5.keep) (by omega) hh fun h6 tk6 t6' hk6 => ?_
  have F6 := fr_kp F5 hk6
  have N6 := news_kp N5 hk6
  clear F5 N5
  dsimp only
  k_steps
  all_goals (try k_data)
  rename Fr _ _ _ _ => F'
  rename News _ _ _ _ => N'
  refine ⟨rfl, _, _, _, rfl, F', N', ⟨⟨_, by with_unfolding_all exact hm1⟩, ⟨_, by with_unfolding_all exact hm2⟩, ⟨_, by with_unfolding_all exact hm3⟩, ⟨_, by with_unfolding_all exact hm4⟩, ⟨_, by with_unfolding_all exact hm5⟩, ⟨_, by with_unfolding_all exact hm6⟩⟩, ?_, by with_unfolding_all exact hm8⟩
  rw [← hnow]
  exact ⟨_, by with_unfolding_all rfl⟩
end
end
/-! LZ -/
theorem fresh_LZ : True ∧ True := by
  w_top off
  first
    | (walk1; done)
    | exact ⟨trivial, trivial⟩
section
set_option maxRecDepth 100000
set_option maxHeartbeats 4000000
section
variable {w : World} {A : Around} {E : Value → Shared → Prop} {s : Shared} {mean : ExcName → Option Value} {mg mb : Str → Option Value}
def nowAt (fx lw : Nat) (rot : List Nat) (i : Nat) : Nat := fx + lw * rot.getD (i % rot.length) 0
def keptTo (fx lw st sz : Nat) (rot : List Nat) (i : Nat) : List (List UInt8) := (List.range i).map fun j => stretch (nowAt fx lw rot j) st sz
/-- what a turn asks of the numbers -/
def TurnOk (fx lw st sz : Nat) (kp : Int) (rot : List Nat) : Prop := ∀ i, i < rot.length → rot.getD i 0 < 64 ∧ nowAt fx lw rot i = fx + lw * rot.getD i 0 ∧ nowAt fx lw rot i < 65536 ∧
  Builtin.bitAnd (nowAt fx lw rot i : Int) 61440 + Builtin.bitAnd (Builtin.bitAnd (nowAt fx lw rot i : Int) 4095) kp + ((worthTo (movedOf (stretch (nowAt fx lw rot i) st sz)).toArray st (movedOf (stretch (nowAt fx lw rot i) st sz)).toArray.size : Nat) : Int) = (nowAt fx lw rot (i + 1) : Int)
theorem turn_ok {sz st md : Nat} (hsz : sz = 5 ∨ sz = 6) (hs9 : st + sz ≤ 9) (hmd : md < 65536) :
    TurnOk (md - 2 ^ (9 - st - sz) * (md / 2 ^ (9 - st - sz) % 2 ^ sz)) (2 ^ (9 - st - sz)) st sz (4095 - ((2 ^ (9 - st - sz) : Nat) : Int) * (2 ^ sz - 1)) (rotOf sz (md / 2 ^ (9 - st - sz) % 2 ^ sz)) ∧
    0 < (rotOf sz (md / 2 ^ (9 - st - sz) % 2 ^ sz)).length ∧ nowAt (md - 2 ^ (9 - st - sz) * (md / 2 ^ (9 - st - sz) % 2 ^ sz)) (2 ^ (9 - st - sz)) (rotOf sz (md / 2 ^ (9 - st - sz) % 2 ^ sz)) 0 = md := by
  obtain ⟨hf1, hf2, hf3⟩ := fx_facts (md := md) hsz hs9 hmd
  have hpl : md / 2 ^ (9 - st - sz) % 2 ^ sz < 2 ^ sz := Nat.mod_lt _ (Nat.two_pow_pos _)
  obtain ⟨hr1, hr2, hr3, hr4, hr5⟩ := ok_facts hsz hpl
  have h0 : 0 < (rotOf sz (md / 2 ^ (9 - st - sz) % 2 ^ sz)).length := by
    have e : (rotOf sz (md / 2 ^ (9 - st - sz) % 2 ^ sz)).length = (rowsOf sz (md / 2 ^ (9 - st - sz) % 2 ^ sz)).length := by
      unfold rotOf; rw [List.length_append, List.length_drop, List.length_take]; omega
    rw [e]; exact List.length_pos_of_mem hr1
  refine ⟨fun i hi => ?_, h0, ?_⟩
  · obtain ⟨g1, g2⟩ := hr5 i hi
    obtain ⟨k1, k2⟩ := hf3 _ g2
    have e1 : nowAt (md - 2 ^ (9 - st - sz) * (md / 2 ^ (9 - st - sz) % 2 ^ sz)) (2 ^ (9 - st - sz)) (rotOf sz (md / 2 ^ (9 - st - sz) % 2 ^ sz)) i =
        (md - 2 ^ (9 - st - sz) * (md / 2 ^ (9 - st - sz) % 2 ^ sz)) + 2 ^ (9 - st - sz) * (rotOf sz (md / 2 ^ (9 - st - sz) % 2 ^ sz)).getD i 0 := by
      unfold nowAt; rw [Nat.mod_eq_of_lt hi]
    have h64 : (2 : Nat) ^ sz ≤ 64 := by rcases hsz with rfl | rfl <;> decide
    refine ⟨by omega, e1, by rw [e1]; exact k1, ?_⟩
    rw [e1, step_eq hsz hs9 g2 hf2 k1 k2 rfl, g1]
    rfl
  · unfold nowAt
    rw [Nat.zero_mod, hr3]; omega
def J13 (s : Shared) (I K R : Addr) (oR : Obj) (md sz st lw : Nat) (fx kp : Int) (fxN : Nat) (rot : List Nat) (i : Nat) (s' : Shared) : Prop :=
  ∃ oI nK ps, listItO R i oI ∧ ps.map (·.1) = (keptTo fxN lw st sz rot i).map List.toArray ∧ Lst s [(I, oI), (K, W.listOf (bvals ps).toArray nK), (R, oR)] (PL md sz st lw fx kp K (nowAt fxN lw rot i)) s'
theorem store_L {prog : Program} {env : Env} {h₀ : Heap} {L : Addr} {m : Str → Option Value} {news : List (Addr × Obj)} {x : Str} {v : Value} {Q : Unit → Shared → Prop} (F : Fr h₀ L s.heap m) (N : News h₀ L s.heap news) (hL : env.locals = L)
    (h : ∀ h', Fr h₀ L h' (fun y => if y = x then some v else m y) → News h₀ L h' news → Q () { s with heap := h', toks := s.toks + 1 })
    (hy : env.kindOf x = some .local := by rfl) (hp : (env.scope.kind == .class || (env.scope.kind == .module && env.locals != env.globals)) = false := by rfl) :
    wpAny (model prog w) A (storeName env x v) Q E s := by
  subst hL
  refine wpAny_storeName_local hy F.ns (fun h₂ hn₂ hs₂ => ?_) hp
  have hL₀ : h₀.get? env.locals = none := Heap.get?_none_of_le F.above
  exact h h₂ ⟨hn₂, fun b o e => hs₂.extBut b o (fun q => by rw [q, hL₀] at e; cases e) (F.keep b o e), F.above⟩ fun p hp => ⟨hs₂.extBut _ _ (N p hp).2.1 (N p hp).1, (N p hp).2⟩
theorem nowAt_end {fx lw : Nat} {rot : List Nat} : nowAt fx lw rot rot.length = nowAt fx lw rot 0 := by unfold nowAt; rw [Nat.mod_self, Nat.zero_mod]
theorem kept_succ {fx lw st sz i : Nat} {rot : List Nat} : keptTo fx lw st sz rot (i + 1) = keptTo fx lw st sz rot i ++ [stretch (nowAt fx lw rot i) st sz] := by
  unfold keptTo; rw [List.range_succ, List.map_append]; rfl
theorem kept_length {fx lw st sz i : Nat} {rot : List Nat} : (keptTo fx lw st sz rot i).length = i := by simp [keptTo]
def forTarget : Stmt → Expr
  | .For t _ _ _ _ => t
  | _ => .Constant .none 0 ⟨0, 0, 0, 0⟩
theorem loop13 {fa K R : Addr} {cd : Value} {n nR md sz st lw fxN : Nat} {kp : Int} {rot : List Nat} {vR : List Value} {s₁ : Shared} (X : (hd.heap_39 w.params).In s.heap) (T : Top hd.view_39 (looseW hd.view_39 [Str.ofString "_filemode_table"]) mean mg mb s.heap) (hh : A.handled = none) (hg : A.guards = some []) (hdp : A.depth + 9 < recursionLimit)
    (hs9 : st + sz ≤ 9) (hs3 : 3 ≤ sz) (hlw : lw ≤ 16) (hi : IntsAre vR (rot.map Int.ofNat)) (hr : rot.length ≤ 20) (hok : TurnOk fxN lw st sz kp rot) (hmd : nowAt fxN lw rot 0 = md) (hKR : @Ne Nat K R)
    (h : Lst s [(K, W.listOf #[] n), (R, W.listOf vR.toArray nR)] (PL md sz st lw (fxN : Int) kp K md) s₁) :
    wpAny (model PySem.Challenge.rw_pg0089_01.row.prog w) A (pyIter (.ref R)) (fun it s₂ => codeC (model PySem.Challenge.rw_pg0089_01.row.prog w) A (.forLoop (forTarget (lawSt 13)) it (forBody (lawSt 13)) [] (envOfC (Str.ofString "law") lawScope s.heap.objs.size fa cd))
      (Ret (nx fun s' => ∃ nK ps, ps.map (·.1) = (keptTo fxN lw st sz rot rot.length).map List.toArray ∧ Lst s [(K, W.listOf (bvals ps).toArray nK)] (PL md sz st lw (fxN : Int) kp K md) s')) s₂) NoE s₁ := by
  obtain ⟨h1, tk1, m, rfl, F, N, hm⟩ := h
  conv in (forTarget _) => whnf
  rw [show forBody (lawSt 13) = [lawB 0, lawB 1, lawB 2, lawB 3, lawB 4] from rfl]
  refine list_enter (s := ⟨h1, _, _, _, _⟩) (N.isList (.tail _ (.head _))) F N fun I h4 o4 F4 N4 ho4 off _ hRI => ?_
  have hKI : @Ne Nat K I := off _ (.head _)
  have hlen := ints_length hi
  rw [List.length_map] at hlen
  refine forC_inv rot.length (J13 s I K R (W.listOf vR.toArray nR) md sz st lw (fxN : Int) kp fxN rot) ?_ ?_ rot.length 0 _ rfl (Nat.zero_le _) ?_
  · rintro i s' hilt ⟨oI, nK, ps, hI, hps, h, tk, m', rfl, F5, N5, hm5⟩
    obtain ⟨k1, k2, k3, k4⟩ := hok i hilt
    have hpl : ps.length = i := by
      have := congrArg List.length hps
      simpa [kept_length] using this
    have hx : (rot.map Int.ofNat)[i]? = some ((rot.getD i 0 : Nat) : Int) := by
      rw [List.getElem?_map, List.getD_eq_getElem?_getD, List.getElem?_eq_getElem hilt]; rfl
    obtain ⟨t, hv⟩ := hi.get i _ hx
    refine list_turn (s := ⟨h, _, _, _, _⟩) F5 N5 hI (items := vR.toArray) (N5.isList (.tail _ (.tail _ (.head _)))) (by rw [List.getElem?_toArray]; exact hv) (by exact off) fun h6 o6 F6 N6 ho6 => ?_
    clear F4 N4 F5 N5
    refine wpAny_assign_Name (store_L (s := ⟨h6, _, _, _, _⟩) F6 N6 rfl fun h7 F7 N7 => ?_)
    clear F6 N6
    obtain ⟨⟨⟨t1, hm1⟩, ⟨t2, hm2⟩, ⟨t3, hm3⟩, ⟨t4, hm4⟩, ⟨t5, hm5⟩, ⟨t6, hm6⟩⟩, ⟨t7, hm7⟩, hm8⟩ := hm5
    have hx2 : (fxN : Int) + (lw : Int) * ((rot.getD i 0 : Nat) : Int) = ((nowAt fxN lw rot i : Nat) : Int) := by rw [k2]; norm_cast
    refine nextC_mid _ (sb0 (td := nowAt fxN lw rot i) X T (by omega) k1 hx2 ⟨h7, _, _, rfl, F7, N7, ⟨⟨⟨_, by with_unfolding_all exact hm1⟩, ⟨_, by with_unfolding_all exact hm2⟩, ⟨_, by with_unfolding_all exact hm3⟩, ⟨_, by with_unfolding_all exact hm4⟩, ⟨_, by with_unfolding_all exact hm5⟩, ⟨_, by with_unfolding_all exact hm6⟩⟩, ⟨_, by with_unfolding_all exact hm7⟩, by with_unfolding_all exact hm8⟩, ⟨_, by with_unfolding_all rfl⟩⟩) fun s2 L2 => ?_
    clear F7 N7 hm1 hm2 hm3 hm4 hm5 hm6 hm7 hm8
    refine nextC_mid _ (sb1 X T hh hdp k3 L2) fun s3 L3 => ?_
    refine nextC_mid _ (sb2 X T hh hdp k3 L3) fun s4 L4 => ?_
    refine nextC_mid _ (sb3 X T hh hdp k3 hs9 (by omega) hKI hKR L4) fun s5 L5 => ?_
    obtain ⟨t5, n5, L5⟩ := L5
    refine nextC_mid _ (sb4 X T hh hg hdp hs9 hs3 (by omega) hKI hKR k4 L5) fun s6 L6 => ?_
    refine wpC_execs_nil ?_
    refine ⟨o6, n5, _, ho6, ?_, L6⟩
    rw [kept_succ, List.map_append, List.map_append, hps]
    rfl
  · rintro s' ⟨oI, nK, ps, hI, hps, h, tk, m', rfl, F5, N5, hm5⟩
    refine list_done (s := ⟨h, _, _, _, _⟩) hh F5 N5 hI (items := vR.toArray) (N5.isList (.tail _ (.tail _ (.head _)))) (by rw [List.getElem?_toArray, List.getElem?_eq_none]; omega) (by exact off) fun h6 F6 N6 => ?_
    refine wpC_execs_nil ?_
    rw [nowAt_end, hmd] at hm5
    exact ⟨rfl, nK, ps, hps, h6, _, m', rfl, F6, news_sub N6 (by simp), hm5⟩
  · exact ⟨o4, n, [], ho4, rfl, h4, _, m, rfl, F4, N4, by rw [hmd]; exact hm⟩
end
end
/-! LA -/
theorem fresh_LA : True ∧ True := by
  w_top off
  first
    | (walk1; done)
    | exact ⟨trivial, trivial⟩
section
set_option maxRecDepth 100000
set_option maxHeartbeats 4000000
section
variable {w : World} {A : Around} {E : Value → Shared → Prop} {s : Shared} {mean : ExcName → Option Value} {mg mb : Str → Option Value}
local macro_rules | `(tactic| walk_at "subscriptTail Name Slice ref ref") => `(tactic| (k_here; (refine stop_call ?_)))
theorem st13 {fa cl D K : Addr} {cd : Value} {oc : Obj} {n nD md sz st lw fi fxN : Nat} {kp : Int} {rws rot : List Nat} {vs : List Value} {s₁ : Shared} (X : (hd.heap_39 w.params).In s.heap) (T : Top hd.view_39 (looseW hd.view_39 [Str.ofString "_filemode_table"]) mean mg mb s.heap) (hh : A.handled = none) (hg : A.guards = some []) (hdp : A.depth + 9 < recursionLimit)
    (hs9 : st + sz ≤ 9) (hs3 : 3 ≤ sz) (hlw : lw ≤ 16) (hi : IntsAre vs (rws.map Int.ofNat)) (hr : rws.length ≤ 20) (hfi : fi ≤ rws.length) (hrot : rot = rws.drop fi ++ rws.take fi) (hok : TurnOk fxN lw st sz kp rot) (hr0 : 0 < rot.length) (hmd : nowAt fxN lw rot 0 = md) (hKD : @Ne Nat K D)
    (h : Lst s [(K, W.listOf #[] n), (D, W.listOf vs.toArray nD), (cl, oc)] (P12 md sz st lw (fxN : Int) kp D K fi md) s₁) :
    wpC (model PySem.Challenge.rw_pg0089_01.row.prog w) A (exec (lawSt 13) (envOfC (Str.ofString "law") lawScope s.heap.objs.size fa cd))
      (nx fun s' => ∃ nK ps, ps.map (·.1) = (keptTo fxN lw st sz rot rot.length).map List.toArray ∧ Lst s [(K, W.listOf (bvals ps).toArray nK)] (PL md sz st lw (fxN : Int) kp K md) s') NoE s₁ := by
  revert X; k_fill; intro X
  conv in (lawSt _) => whnf
  conv in lawScope => whnf; zeta
  obtain ⟨h1, tk1, m, rfl, F, N, ⟨⟨t1, hm1⟩, ⟨t2, hm2⟩, ⟨t3, hm3⟩, ⟨t4, hm4⟩, ⟨t5, hm5⟩, ⟨t6, hm6⟩⟩, hm7, ⟨t8, hm8⟩, ⟨t9, hm9⟩, hm10⟩ := h
  have hvl := ints_length hi
  rw [List.length_map] at hvl
  refine forC ?_
  k_steps
  all_goals (try k_data)
  unfold Stop
  rename Fr _ _ _ _ => F2
  rename News _ _ _ _ => N2
  refine kmk_slice_ints (s := ⟨_, _, _, _, _⟩) F2 N2 (N2.isList (.tail _ (.head _))) (.int _ _) .none hi (slice_ints_fromW hi (by omega)) rfl (fun D1 ws1 h3 F3 N3 l3 hi3 _ _ => ?_) (by with_unfolding_all rfl) (by intro _; with_unfolding_all rfl) (by rw [List.size_toArray, PySem.sizeLine_eq]; omega)
  clear F2 N2
  try dsimp only
  k_steps
  all_goals (try k_data)
  unfold Stop
  rename Fr _ _ _ _ => F4
  rename News _ _ _ _ => N4
  refine kmk_slice_ints (s := ⟨_, _, _, _, _⟩) F4 N4 (N4.isList (.tail _ (.tail _ (.head _)))) .none (.int _ _) hi (slice_ints_uptoW hi (by omega)) rfl (fun D2 ws2 h5 F5 N5 l5 hi5 _ _ => ?_) (by with_unfolding_all rfl) (by intro _; with_unfolding_all rfl) (by rw [List.size_toArray, PySem.sizeLine_eq]; omega)
  clear F4 N4
  try dsimp only
  k_steps
  all_goals (try k_data)
  rename_i hI l1
  rename Fr _ _ _ _ => F2
  rename News _ _ _ _ => N2
  rw [Int.toNat_natCast, ← List.map_drop, ← List.map_take, ← List.map_append, ← hrot] at hI
  have hlen : rot.length = rws.length := by rw [hrot, List.length_append, List.length_drop, List.length_take]; omega
  exact loop13 X T hh hg hdp hs9 hs3 hlw hI (by omega) hok hmd (Nat.ne_of_lt l1.2.2.1) ⟨_, _, m, rfl, F2, news_two N2 (.tail _ (.tail _ (.tail _ (.head _)))) (.head _), ⟨⟨_, by with_unfolding_all exact hm1⟩, ⟨_, by with_unfolding_all exact hm2⟩, ⟨_, by with_unfolding_all exact hm3⟩, ⟨_, by with_unfolding_all exact hm4⟩, ⟨_, by with_unfolding_all exact hm5⟩, ⟨_, by with_unfolding_all exact hm6⟩⟩, ⟨_, by with_unfolding_all exact hm9⟩, by with_unfolding_all exact hm10⟩
end
end
/-! LB -/
theorem fresh_LB : True ∧ True := by
  w_top off
  first
    | (walk1; done)
    | exact ⟨trivial, trivial⟩
section
set_option maxRecDepth 100000
set_option maxHeartbeats 4000000
section
variable {w : World} {A : Around} {E : Value → Shared → Prop} {s : Shared} {mean : ExcName → Option Value} {mg mb : Str → Option Value}
local macro_rules | `(tactic| walk_at "call ref") => `(tactic| (k_here; (with_reducible show wpAny _ _ (call (Value.ref _) _) _ _ _); (refine stop_call ?_)))
local macro_rules | `(tactic| walk_at "call builtin:bytes.join") => `(tactic| (k_here; (refine stop_call ?_)))
def P14 (md sz : Nat) (K : Addr) (m : Str → Option Value) : Prop := HasI m (Str.ofString "mode") md ∧ HasI m (Str.ofString "size") sz ∧ HasI m (Str.ofString "now") md ∧ m (Str.ofString "kept") = some (.ref K)
def P15 (md sz : Nat) (K : Addr) (b : Array UInt8) (m : Str → Option Value) : Prop := P14 md sz K m ∧ ∃ t, m (Str.ofString "turned") = some (.bytes b t)
theorem st14 {fa K : Addr} {cd : Value} {nK md sz : Nat} {ps : List (Array UInt8 × Tok)} {ls : List (List UInt8)} {s₁ : Shared} (X : (hd.heap_39 w.params).In s.heap) (T : Top hd.view_39 (looseW hd.view_39 [Str.ofString "_filemode_table"]) mean mg mb s.heap) (hh : A.handled = none) (hg : A.guards = some []) (hdp : A.depth + 9 < recursionLimit)
    (hs3 : 3 ≤ sz) (hs6 : sz ≤ 9) (hps : ps.map (·.1) = ls.map List.toArray) (hls : ∀ l ∈ ls, l.length = sz) (hn : ls.length ≤ 64)
    (h : Lst s [(K, W.listOf (bvals ps).toArray nK)] (P14 md sz K) s₁) :
    wpC (model PySem.Challenge.rw_pg0089_01.row.prog w) A (exec (lawSt 14) (envOfC (Str.ofString "law") lawScope s.heap.objs.size fa cd))
      (nx (Lst s [(K, W.listOf (bvals ps).toArray nK)] (P15 md sz K (swp ls.flatten.toArray sz)))) NoE s₁ := by
  revert X; k_fill; intro X
  conv in (lawSt _) => whnf
  conv in lawScope => whnf; zeta
  obtain ⟨h1, tk1, m, rfl, F, N, ⟨t1, hm1⟩, ⟨t2, hm2⟩, ⟨t3, hm3⟩, hm4⟩ := h
  obtain ⟨ob, fd, hob, hfd⟩ : ∃ o fd, (hd.heap_39 w.params).lookup 21 = some o ∧ o.data = .func fd := ⟨_, _, rfl, rfl⟩
  refine wpC_Assign_Name (Call_C ?_)
  k_steps
  refine fnC2 (o := ob) hfd (by rfl) (wpC_of_any ?_)
  k_steps
  all_goals (try k_data)
  refine method_bj ?_
  dsimp only
  k_steps
  all_goals (try k_data)
  unfold Stop
  have hfl : ls.flatten.length = ls.length * sz := flat_len hls
  have hfl2 : ls.length * sz ≤ 64 * 9 := Nat.mul_le_mul hn hs6
  refine call_join (s := ⟨_, _, _, _, _⟩) (N.isList (.head _)) (by rw [hps, sizes_flat]; omega) (by rw [hps, joined_flat, List.size_toArray]; omega) fun t5 k5 => ?_
  rw [hps, joined_flat]
  refine wpC_of_any ?_
  dsimp only
  k_steps
  all_goals (try k_data)
  · exact F.keep _ _ (X _ _ hob)
  refine byteswap_C (s := ⟨_, _, _, _, _⟩) (k := ls.length) (Frag.In.keeps X F.keep) (Top.keeps T F.keep) (by omega) hh hg (by omega) (by rw [List.size_toArray, hfl]) (by rw [List.size_toArray]; omega) (by omega) fun h6 tk6 t6 hk6 => ?_
  have F6 := fr_kp F hk6
  have N6 := news_kp N hk6
  clear F N
  dsimp only
  k_steps
  all_goals (try k_data)
  rename Fr _ _ _ _ => F'
  rename News _ _ _ _ => N'
  exact ⟨rfl, _, _, _, rfl, F', N', ⟨⟨_, by with_unfolding_all exact hm1⟩, ⟨_, by with_unfolding_all exact hm2⟩, ⟨_, by with_unfolding_all exact hm3⟩, by with_unfolding_all exact hm4⟩, ⟨_, by with_unfolding_all rfl⟩⟩
end
end
/-! LC -/
theorem fresh_LC : True ∧ True := by
  w_top off
  first
    | (walk1; done)
    | exact ⟨trivial, trivial⟩
section
set_option maxRecDepth 100000
set_option maxHeartbeats 4000000
section
variable {w : World} {A : Around} {E : Value → Shared → Prop} {s : Shared} {mean : ExcName → Option Value} {mg mb : Str → Option Value}
local macro_rules | `(tactic| walk_at "call type:list") => `(tactic| (k_here; (refine stop_call ?_)))
local macro_rules | `(tactic| walk_at "call type:bytes") => `(tactic| (k_here; (refine stop_call ?_)))
local macro_rules | `(tactic| walk_at "subscriptTail") => `(tactic| (k_here; (refine stop_call ?_)))
local macro_rules | `(tactic| walk_at "eval ListComp") => `(tactic| (k_here; (refine stop_call ?_)))
def backInts (ls : List (List UInt8)) : List Int := (ls.map List.reverse).flatten.map fun c => (c.toNat : Int)
theorem back_succ {ls : List (List UInt8)} {i : Nat} (h : i < ls.length) : backInts (ls.take (i + 1)) = backInts (ls.take i) ++ ((ls.getD i []).reverse.map fun c => (c.toNat : Int)) := by
  unfold backInts
  rw [List.take_add_one, List.getElem?_eq_getElem h, Option.toList_some, List.map_append, List.flatten_append, List.map_append, List.getD_eq_getElem?_getD, List.getElem?_eq_getElem h]
  simp
theorem bvals_at {ps : List (Array UInt8 × Tok)} {ls : List (List UInt8)} {i : Nat} (hps : ps.map (·.1) = ls.map List.toArray) (hi : i < ls.length) : ∃ t, (bvals ps)[i]? = some (.bytes (ls.getD i []).toArray t) := by
  have hl : ps.length = ls.length := by simpa using congrArg List.length hps
  have hp : i < ps.length := by omega
  refine ⟨ps[i].2, ?_⟩
  have e : ps[i].1 = (ls.getD i []).toArray := by
    have := congrArg (fun l => l[i]?) hps
    simp only [List.getElem?_map, List.getElem?_eq_getElem hp, List.getElem?_eq_getElem hi, Option.map_some, Option.some.injEq] at this
    rw [this, List.getD_eq_getElem?_getD, List.getElem?_eq_getElem hi]; rfl
  unfold bvals
  rw [List.getElem?_map, List.getElem?_eq_getElem hp, Option.map_some, e]
def C0J (s : Shared) (m : Str → Option Value) (C D I0 K : Addr) (oK : Obj) (ls : List (List UInt8)) (i : Nat) (s' : Shared) : Prop :=
  ∃ h tk oI oC mC ys, s' = { s with heap := h, toks := tk } ∧ Fr s.heap s.heap.objs.size h m ∧ News s.heap s.heap.objs.size h [(C, oC), (D, LCg.lst ys), (I0, oI), (K, oK)] ∧
    listItO K i oI ∧ LCg.NsObj oC mC ∧ IntsAre ys (backInts (ls.take i))
def C1J (s : Shared) (m : Str → Option Value) (C D I0 K R1 I1 : Addr) (oK oI0 oR : Obj) (base rev : List Int) (j : Nat) (s' : Shared) : Prop :=
  ∃ h tk oI oC mC ys, s' = { s with heap := h, toks := tk } ∧ Fr s.heap s.heap.objs.size h m ∧ News s.heap s.heap.objs.size h [(I1, oI), (C, oC), (D, LCg.lst ys), (R1, oR), (I0, oI0), (K, oK)] ∧
    listItO R1 j oI ∧ LCg.NsObj oC mC ∧ IntsAre ys (base ++ rev.take j)
theorem ints_snoc {vs : List Value} {ns : List Int} {n : Int} {t : Tok} (h : IntsAre vs ns) : IntsAre (vs ++ [.int n t]) (ns ++ [n]) := by
  induction h with
  | nil => exact .cons _ _ .nil
  | cons a b _ ih => exact .cons _ _ ih
theorem off5 {I a b c d e : Addr} {oa ob oc od oe : Obj} (h1 : @Ne Nat a I) (h2 : @Ne Nat b I) (h3 : @Ne Nat c I) (h4 : @Ne Nat d I) (h5 : @Ne Nat e I) : Off I [(a, oa), (b, ob), (c, oc), (d, od), (e, oe)] := by
  intro x hx
  simp only [List.map_cons, List.map_nil, List.mem_cons, List.not_mem_nil, or_false] at hx
  rcases hx with rfl | rfl | rfl | rfl | rfl <;> assumption
theorem sub6 {l : List (Addr × Obj)} {p q r t u v : Addr × Obj} (h1 : p ∈ l) (h2 : q ∈ l) (h3 : r ∈ l) (h4 : t ∈ l) (h5 : u ∈ l) (h6 : v ∈ l) : ∀ x ∈ [p, q, r, t, u, v], x ∈ l := by
  intro x hx
  simp only [List.mem_cons, List.not_mem_nil, or_false] at hx
  rcases hx with rfl | rfl | rfl | rfl | rfl | rfl <;> assumption
theorem back_bytes (ls : List (List UInt8)) : ((backInts ls).map fun n => n.toNat.toUInt8).toArray = (ls.map List.reverse).flatten.toArray := by
  unfold backInts
  rw [List.map_map]
  congr 1
  conv => rhs; rw [← List.map_id (ls.map List.reverse).flatten]
  refine List.map_congr_left fun c _ => ?_
  show ((c.toNat : Int)).toNat.toUInt8 = c
  rw [Int.toNat_natCast]
  simp
theorem back_in {ls : List (List UInt8)} : ∀ n ∈ backInts ls, 0 ≤ n ∧ n < 256 := by
  intro n hn
  obtain ⟨c, _, rfl⟩ := List.mem_map.mp hn
  have := c.toNat_lt
  omega
theorem back_len {ls : List (List UInt8)} (hls : ∀ l ∈ ls, l.length ≤ 9) : (backInts ls).length ≤ ls.length * 9 := by
  unfold backInts
  rw [List.length_map]
  induction ls with
  | nil => simp
  | cons a ls ih =>
    have h1 := hls a (.head _)
    have h2 := ih fun l hl => hls l (.tail _ hl)
    rw [List.map_cons, List.flatten_cons, List.length_append, List.length_reverse, List.length_cons, Nat.succ_mul]; omega
theorem off3 {I a b c : Addr} {oa ob oc : Obj} (h1 : @Ne Nat a I) (h2 : @Ne Nat b I) (h3 : @Ne Nat c I) : Off I [(a, oa), (b, ob), (c, oc)] := by
  intro x hx
  simp only [List.map_cons, List.map_nil, List.mem_cons, List.not_mem_nil, or_false] at hx
  rcases hx with rfl | rfl | rfl <;> assumption
theorem sub3 {l : List (Addr × Obj)} {p q r : Addr × Obj} (h1 : p ∈ l) (h2 : q ∈ l) (h3 : r ∈ l) : ∀ x ∈ [p, q, r], x ∈ l := by
  intro x hx
  simp only [List.mem_cons, List.not_mem_nil, or_false] at hx
  rcases hx with rfl | rfl | rfl <;> assumption
theorem sub4 {l : List (Addr × Obj)} {p q r t : Addr × Obj} (h1 : p ∈ l) (h2 : q ∈ l) (h3 : r ∈ l) (h4 : t ∈ l) : ∀ x ∈ [p, q, r, t], x ∈ l := by
  intro x hx
  simp only [List.mem_cons, List.not_mem_nil, or_false] at hx
  rcases hx with rfl | rfl | rfl | rfl <;> assumption
def P16 (md : Nat) (b c : Array UInt8) (m : Str → Option Value) : Prop := HasI m (Str.ofString "mode") md ∧ HasI m (Str.ofString "now") md ∧ (∃ t, m (Str.ofString "turned") = some (.bytes b t)) ∧ ∃ t, m (Str.ofString "backs") = some (.bytes c t)
theorem st15 {fa K : Addr} {cd : Value} {nK md sz : Nat} {b : Array UInt8} {ps : List (Array UInt8 × Tok)} {ls : List (List UInt8)} {s₁ : Shared} (X : (hd.heap_39 w.params).In s.heap) (T : Top hd.view_39 (looseW hd.view_39 [Str.ofString "_filemode_table"]) mean mg mb s.heap) (hh : A.handled = none)
    (hps : ps.map (·.1) = ls.map List.toArray) (hls : ∀ l ∈ ls, l.length ≤ 9) (hn : ls.length ≤ 64)
    (h : Lst s [(K, W.listOf (bvals ps).toArray nK)] (P15 md sz K b) s₁) :
    wpC (model PySem.Challenge.rw_pg0089_01.row.prog w) A (exec (lawSt 15) (envOfC (Str.ofString "law") lawScope s.heap.objs.size fa cd))
      (nx (Lst s [(K, W.listOf (bvals ps).toArray nK)] (P16 md b (ls.map List.reverse).flatten.toArray))) NoE s₁ := by
  revert X; k_fill; intro X
  conv in (lawSt _) => whnf
  conv in lawScope => whnf; zeta
  obtain ⟨h1, tk1, m, rfl, F, N, ⟨⟨t1, hm1⟩, ⟨t2, hm2⟩, ⟨t3, hm3⟩, hm4⟩, ⟨t5, hm5⟩⟩ := h
  refine wpC_of_any ?_
  k_steps
  all_goals (try k_data)
  unfold Stop
  refine ListComp_two (h₀ := s.heap) (L := s.heap.objs.size) (m := m) (by rfl) (by decide) (by rfl) (by decide) ?_
  k_steps
  all_goals (try k_data)
  refine list_enter (s := ⟨h1, _, _, _, _⟩) (N.isList (.head _)) F N fun I0 h2 o2 F2 N2 ho2 off2 _ hKI => ?_
  refine ⟨_, F2, N2, ?_⟩
  intro C D oC mC h3 tk3 F3 N3 hC3 offD offC hDC
  clear F N F2 N2
  have hID : @Ne Nat I0 D := offD _ (.head _)
  have hKD : @Ne Nat K D := offD _ (.tail _ (.head _))
  have hIC : @Ne Nat I0 C := offC _ (.head _)
  have hKC : @Ne Nat K C := offC _ (.tail _ (.head _))
  refine start_two0 ?_ (fun Q E q => wpAny_pyIter_listiter (i := 0) ⟨o2, N3.get (.tail _ (.tail _ (.head _))), ho2.1, ho2.2⟩ q)
  refine loop_two0 ls.length (C0J s m C D I0 K (W.listOf (bvals ps).toArray nK) ls) ?_ ?_ (by intro _; rfl) ls.length 0 _ rfl (Nat.zero_le _) ?_
  · rintro i s' hi ⟨h, tk, oI, oC5, mC5, ys, rfl, F5, N5, hI, hC5, hys⟩
    obtain ⟨tb, hv⟩ := bvals_at hps hi
    refine list_next (s := ⟨h, _, _, _, _⟩) (items := (bvals ps).toArray) F5 (news_sub N5 (sub4 (.tail _ (.tail _ (.head _))) (.head _) (.tail _ (.head _)) (.tail _ (.tail _ (.tail _ (.head _)))))) hI (N5.isList (.tail _ (.tail _ (.tail _ (.head _))))) (by rw [List.getElem?_toArray]; exact hv) (off3 (Ne.symm hIC) (Ne.symm hID) hKI) fun h6 oI6 F6 N6 hI6 => ?_
    refine wpAny_assign_Name (store_C (s := ⟨h6, _, _, _, _⟩) F6 (news_sub N6 (sub4 (.tail _ (.head _)) (.head _) (.tail _ (.tail _ (.head _))) (.tail _ (.tail _ (.tail _ (.head _)))))) hC5 (off3 hIC (show @Ne Nat D C by omega) hKC) fun h7 oC7 m7 F7 N7 hC7 hx7 => ?_)
    clear F3 N3 F5 N5 F6 N6
    dsimp only
    k_steps
    all_goals (try k_data)
    unfold Stop
    have hl9 : (ls.getD i []).length ≤ 9 := by
      rw [List.getD_eq_getElem?_getD, List.getElem?_eq_getElem hi]; exact hls _ (List.getElem_mem hi)
    refine call_list_bytes hh (by rw [List.size_toArray, PySem.sizeLine_eq]; omega) fun h8 tk8 vs8 c8 hk8 ho8 hi8 => ?_
    have F8 := fr_kp F7 hk8
    have N8 := news_more F7 N7 hk8 (Nat.le_refl _) ho8
    have hz7 := news_lt N7
    clear F7 N7
    dsimp only
    k_steps
    all_goals (try k_data)
    unfold Stop
    have hR1 := hz7 _ (.head _)
    have hR2 := hz7 _ (.tail _ (.head _))
    have hR3 := hz7 _ (.tail _ (.tail _ (.head _)))
    have hR4 := hz7 _ (.tail _ (.tail _ (.tail _ (.head _))))
    clear hz7
    have h8len := ints_length hi8
    rw [KBw.ints_length, List.size_toArray] at h8len
    refine kba_turn (value' := Expr.Name (Str.ofString "_") ⟨0, 0, 0, 0⟩) (fun _ => rfl) ?_
    refine krv_ints (s := ⟨h8, _, _, _, _⟩) F8 N8 (N8.isList (.head _)) (.int _ _) hi8 (fun R1 vr h9 F9 N9 l1 hi9 _ => ?_) (by with_unfolding_all rfl) (by intro _; with_unfolding_all rfl) (by rw [List.size_toArray, PySem.sizeLine_eq]; omega)
    have hS0 := l1 _ (.head _)
    have hS1 := l1 _ (.tail _ (.head _))
    have hS2 := l1 _ (.tail _ (.tail _ (.head _)))
    have hS3 := l1 _ (.tail _ (.tail _ (.tail _ (.head _))))
    have hS4 := l1 _ (.tail _ (.tail _ (.tail _ (.tail _ (.head _)))))
    clear l1
    replace N9 := news_sub N9 (show ∀ p ∈ [(R1, W.listOf vr.toArray 0), (C, oC7), (I0, oI6), (D, LCg.lst ys), (K, W.listOf (bvals ps).toArray nK)], p ∈ _ from fun p hp => by
      rcases List.mem_cons.mp hp with rfl | hp
      · exact .head _
      · exact .tail _ (.tail _ hp))
    dsimp only [qk]
    refine list_enter (s := ⟨h9, _, _, _, _⟩) (N9.isList (.head _)) F9 N9 fun I1 h10 o10 F10 N10 ho10 off10 _ hRI => ?_
    clear F8 N8 F9 N9
    have g1 : @Ne Nat C I1 := off10 _ (.tail _ (.head _))
    have g2 : @Ne Nat I0 I1 := off10 _ (.tail _ (.tail _ (.head _)))
    have g3 : @Ne Nat D I1 := off10 _ (.tail _ (.tail _ (.tail _ (.head _))))
    have g4 : @Ne Nat K I1 := off10 _ (.tail _ (.tail _ (.tail _ (.tail _ (.head _)))))
    have g5 : @Ne Nat R1 C := Nat.ne_of_gt hS1
    have g6 : @Ne Nat R1 D := Nat.ne_of_gt hS3
    have g7 : @Ne Nat C D := Nat.ne_of_gt hDC
    refine start_two1 ?_ (fun Q E q => wpAny_pyIter_listiter (i := 0) ⟨o10, N10.get (.head _), ho10.1, ho10.2⟩ q)
    have hlr := ints_length hi9
    refine loop_two1 vr.length (C1J s m C D I0 K R1 I1 (W.listOf (bvals ps).toArray nK) oI6 (W.listOf vr.toArray 0) (backInts (ls.take i)) (KBw.bInts (ls.getD i []).toArray).reverse) ?_ ?_ vr.length 0 _ rfl (Nat.zero_le _) ?_
    · rintro j s' hj ⟨h, tk, oI, oCj, mCj, ysj, rfl, F5, N5, hIj, hCj, hysj⟩
      have hj' : j < (KBw.bInts (ls.getD i []).toArray).reverse.length := by omega
      have hx : (KBw.bInts (ls.getD i []).toArray).reverse[j]? = some ((KBw.bInts (ls.getD i []).toArray).reverse[j]) := List.getElem?_eq_getElem hj'
      obtain ⟨tv, hvj⟩ := hi9.get j _ hx
      refine list_next (s := ⟨h, _, _, _, _⟩) (items := vr.toArray) F5 N5 hIj (N5.isList (.tail _ (.tail _ (.tail _ (.head _))))) (by rw [List.getElem?_toArray]; exact hvj) (off5 g1 g3 hRI g2 g4) fun h11 oI11 F11 N11 hI11 => ?_
      refine wpAny_assign_Name (store_C (s := ⟨h11, _, _, _, _⟩) F11 (news_sub N11 (sub6 (.tail _ (.head _)) (.head _) (.tail _ (.tail _ (.head _))) (.tail _ (.tail _ (.tail _ (.head _)))) (.tail _ (.tail _ (.tail _ (.tail _ (.head _))))) (.tail _ (.tail _ (.tail _ (.tail _ (.tail _ (.head _)))))))) hCj (off5 (Ne.symm g1) (Ne.symm g7) g5 hIC hKC) fun h12 oC12 m12 F12 N12 hC12 hx12 => ?_)
      refine LCgL.ld_own (s := ⟨h12, _, _, _, _⟩) N12 (.head _) hC12 hx12 ?_
      have hlen := ints_length hysj
      have hbl := back_len (ls := ls.take i) fun l hl => hls l (List.mem_of_mem_take hl)
      have hb9 : (KBw.bInts (ls.getD i []).toArray).reverse.length ≤ 9 := by rw [List.length_reverse, KBw.ints_length, List.size_toArray]; exact hl9
      rw [List.length_take] at hbl
      rw [List.length_append, List.length_take] at hlen
      refine append_L (s := ⟨h12, _, _, _, _⟩) F12 (news_sub N12 (sub6 (.tail _ (.tail _ (.head _))) (.tail _ (.head _)) (.head _) (.tail _ (.tail _ (.tail _ (.head _)))) (.tail _ (.tail _ (.tail _ (.tail _ (.head _))))) (.tail _ (.tail _ (.tail _ (.tail _ (.tail _ (.head _)))))))) (off5 (Ne.symm g3) g7 g6 hID hKD) (by rw [PySem.sizeLine_eq]; omega) fun h13 F13 N13 => ?_
      refine ⟨h13, _, oI11, oC12, m12, _, rfl, F13, news_sub N13 (sub6 (.tail _ (.head _)) (.tail _ (.tail _ (.head _))) (.head _) (.tail _ (.tail _ (.tail _ (.head _)))) (.tail _ (.tail _ (.tail _ (.tail _ (.head _))))) (.tail _ (.tail _ (.tail _ (.tail _ (.tail _ (.head _))))))), hI11, hC12, ?_⟩
      rw [List.take_add_one, hx, Option.toList_some, ← List.append_assoc]
      exact ints_snoc hysj
    · rintro s' ⟨h, tk, oI, oCj, mCj, ysj, rfl, F5, N5, hIj, hCj, hysj⟩
      refine list_done (s := ⟨h, _, _, _, _⟩) hh F5 N5 hIj (items := vr.toArray) (N5.isList (.tail _ (.tail _ (.tail _ (.head _))))) (by rw [List.getElem?_toArray, List.getElem?_eq_none]; omega) (off5 g1 g3 hRI g2 g4) fun h11 F11 N11 => ?_
      refine ⟨h11, tk, oI6, oCj, mCj, ysj, rfl, F11, news_sub N11 (sub4 (.head _) (.tail _ (.head _)) (.tail _ (.tail _ (.tail _ (.head _)))) (.tail _ (.tail _ (.tail _ (.tail _ (.head _)))))), hI6, hCj, ?_⟩
      rw [back_succ hi]
      rw [show List.take vr.length (KBw.bInts (ls.getD i []).toArray).reverse = (KBw.bInts (ls.getD i []).toArray).reverse from List.take_of_length_le (by omega)] at hysj
      rw [List.map_reverse]
      exact hysj
    · exact ⟨h10, _, o10, oC7, m7, ys, rfl, F10, news_sub N10 (sub6 (.head _) (.tail _ (.tail _ (.head _))) (.tail _ (.tail _ (.tail _ (.tail _ (.head _))))) (.tail _ (.head _)) (.tail _ (.tail _ (.tail _ (.head _)))) (.tail _ (.tail _ (.tail _ (.tail _ (.tail _ (.head _))))))), ho10, hC7, by simpa using hys⟩
  · rintro s' ⟨h, tk, oI, oC5, mC5, ys, rfl, F5, N5, hI, hC5, hys⟩
    have hpl : ps.length = ls.length := by simpa using congrArg List.length hps
    refine list_done (s := ⟨h, _, _, _, _⟩) hh F5 (news_sub N5 (sub4 (.tail _ (.tail _ (.head _))) (.head _) (.tail _ (.head _)) (.tail _ (.tail _ (.tail _ (.head _)))))) hI (items := (bvals ps).toArray) (N5.isList (.tail _ (.tail _ (.tail _ (.head _))))) (by rw [List.getElem?_toArray, List.getElem?_eq_none]; simp only [bvals, List.length_map]; omega) (off3 (Ne.symm hIC) (Ne.symm hID) hKI) fun h6 F6 N6 => ?_
    clear F3 N3 F5 N5
    rw [List.take_length] at hys
    refine ⟨oC5, mC5, _, F6, N6, hC5, ?_, fun h7 F7 N7 => ?_⟩
    · intro x hx
      simp only [List.map_cons, List.map_nil, List.mem_cons, List.not_mem_nil, or_false] at hx
      rcases hx with rfl | rfl
      · exact Nat.ne_of_lt hDC
      · exact hKC
    clear F6 N6
    have hblen := back_len hls
    have hyl := ints_length hys
    dsimp only
    k_steps
    all_goals (try k_data)
    unfold Stop
    refine bytes_K (s := ⟨h7, _, _, _, _⟩) F7 N7 (N7.isList (.head _)) hys back_in (by rw [hyl, PySem.sizeLine_eq]; omega) hh fun h8 t8 k8 F8 N8 _ => ?_
    rw [back_bytes]
    clear F7 N7
    dsimp only
    k_steps
    all_goals (try k_data)
    rename Fr _ _ _ _ => F'
    rename News _ _ _ _ => N'
    exact ⟨rfl, _, _, _, rfl, F', news_tl N', ⟨_, by with_unfolding_all exact hm1⟩, ⟨_, by with_unfolding_all exact hm3⟩, ⟨_, by with_unfolding_all exact hm5⟩, ⟨_, by with_unfolding_all rfl⟩⟩
  · exact ⟨h3, tk3, o2, oC, mC, [], rfl, F3, N3, ho2, hC3, .nil⟩
end
end
/-! LE -/
theorem fresh_LE : True ∧ True := by
  w_top off
  first
    | (walk1; done)
    | exact ⟨trivial, trivial⟩
section
set_option maxRecDepth 100000
set_option maxHeartbeats 4000000
section
variable {w : World} {A : Around} {E : Value → Shared → Prop} {s : Shared} {mean : ExcName → Option Value} {mg mb : Str → Option Value}
theorem st16 {fa K : Addr} {cd : Value} {oK : Obj} {md : Nat} {b : Array UInt8} {s₁ : Shared} (X : (hd.heap_39 w.params).In s.heap) (T : Top hd.view_39 (looseW hd.view_39 [Str.ofString "_filemode_table"]) mean mg mb s.heap) (hh : A.handled = none)
    (h : Lst s [(K, oK)] (P16 md b b) s₁) :
    wpC (model PySem.Challenge.rw_pg0089_01.row.prog w) A (exec (lawSt 16) (envOfC (Str.ofString "law") lawScope s.heap.objs.size fa cd))
      (fun f s' => f = .ret (.bool true) ∧ ∃ h' tk, s' = { s with heap := h', toks := tk } ∧ Kp s.heap h') NoE s₁ := by
  revert X; k_fill; intro X
  conv in (lawSt _) => whnf
  conv in lawScope => whnf; zeta
  obtain ⟨h1, tk1, m, rfl, F, N, ⟨t1, hm1⟩, ⟨t2, hm2⟩, ⟨t3, hm3⟩, ⟨t4, hm4⟩⟩ := h
  refine wpC_of_any ?_
  k_steps
  all_goals (try k_data)
  · simp
  · exact absurd rfl (by assumption)
end
end
/-! LF -/
theorem fresh_LF : True ∧ True := by
  w_top off
  first
    | (walk1; done)
    | exact ⟨trivial, trivial⟩
section
set_option maxRecDepth 100000
set_option maxHeartbeats 4000000
section
variable {w : World} {A : Around} {E : Value → Shared → Prop} {s : Shared} {mean : ExcName → Option Value} {mg mb : Str → Option Value}
theorem Lst.mono {news : List (Addr × Obj)} {P P' : (Str → Option Value) → Prop} {s' : Shared} (h : Lst s news P s') (hp : ∀ m, P m → P' m) : Lst s news P' s' := by
  obtain ⟨h1, tk, m, e, F, N, hm⟩ := h
  exact ⟨h1, tk, m, e, F, N, hp m hm⟩
theorem law_rest {fa cl D2 : Addr} {cd : Value} {oc : Obj} {v₀ : Option Value} {nn : Nat} {ys : List Value} {ds : List Int} {s₁ : Shared} (X : (hd.heap_39 w.params).In s.heap) (T : Top hd.view_39 (looseW hd.view_39 [Str.ofString "_filemode_table"]) mean mg mb s.heap) (hh : A.handled = none) (hg : A.guards = some []) (hdp : A.depth + 9 < recursionLimit)
    (hcl : cl = s.heap.objs.size + 1) (hoc : oc.data = .cell v₀) (hi : IntsAre ys ds) (hlen : ds.length ≤ 2) (hd : ∀ d ∈ ds, 0 ≤ d ∧ d < 1000000)
    (h : Lst s [(D2, W.listOf ys.toArray nn), (cl, oc)] (fun m => m (Str.ofString "drawn") = some (.ref D2)) s₁) :
    wpC (model PySem.Challenge.rw_pg0089_01.row.prog w) A (execs [lawSt 1, lawSt 2, lawSt 3, lawSt 4, lawSt 5, lawSt 6, lawSt 7, lawSt 8, lawSt 9, lawSt 10, lawSt 11, lawSt 12, lawSt 13, lawSt 14, lawSt 15, lawSt 16] (envOfC (Str.ofString "law") lawScope s.heap.objs.size fa cd))
      (fun f s' => f = .ret (.bool true) ∧ ∃ h' tk, s' = { s with heap := h', toks := tk } ∧ Kp s.heap h') NoE s₁ := by
  refine nextC_mid _ (st1 X T hi hlen hd h) fun s2 h2 => ?_
  obtain ⟨D, x, y, tx, ty, n', hx, hy, h2⟩ := h2
  refine nextC_mid _ (st2 X T h2) fun s3 h3 => ?_
  refine nextC_mid _ (st3 X T h3) fun s4 h4 => ?_
  have hsz : 5 + y % 2 = 5 ∨ 5 + y % 2 = 6 := by omega
  have hst : y / 2 % (10 - (5 + y % 2)) + (5 + y % 2) ≤ 9 := by
    have : y / 2 % (10 - (5 + y % 2)) < 10 - (5 + y % 2) := Nat.mod_lt _ (by omega)
    omega
  have hmd : (x + 35242) % 65536 < 65536 := Nat.mod_lt _ (by decide)
  refine nextC_mid _ (st4 X T hsz h4) fun s5 h5 => ?_
  generalize (x + 35242) % 65536 = md at *
  generalize y / 2 % (10 - (5 + y % 2)) = st at *
  generalize 5 + y % 2 = sz at *
  refine nextC_mid _ (st5 X T h5) fun s6 h6 => ?_
  obtain ⟨hl1, hl2, hl3⟩ := low_le hsz hst
  rw [low_eq hst] at h6
  refine nextC_mid _ (st6 X T hcl hoc hsz ⟨hl2, by omega⟩ h6) fun s7 h7 => ?_
  obtain ⟨oc', hoc', h7⟩ := h7
  obtain ⟨hf1, hf2, hf3⟩ := fx_facts (md := md) hsz hst hmd
  have hpl : md / 2 ^ (9 - st - sz) % 2 ^ sz < 2 ^ sz := Nat.mod_lt _ (Nat.two_pow_pos _)
  have hp64 : md / 2 ^ (9 - st - sz) % 2 ^ sz < 64 := by rcases hsz with rfl | rfl <;> omega
  obtain ⟨hr1, hr2, hr3, hr4, hr5⟩ := ok_facts hsz hpl
  obtain ⟨hk1, hk2, hk3⟩ := turn_ok (md := md) hsz hst hmd
  refine nextC_mid _ (st7 X T hcl hoc' (by omega) hp64 h7) fun s8 h8 => ?_
  refine nextC_mid _ (st8 X T hsz (by omega) h8) fun s9 h9 => ?_
  refine nextC_mid _ (st9 X T hh hcl hoc' hsz hpl h9) fun s10 h10 => ?_
  refine nextC_mid _ (st10 X T hh hdp hsz hr2 h10) fun s11 h11 => ?_
  obtain ⟨Dr, vs, nr, hiv, h11⟩ := h11
  refine nextC_mid _ (st11 X T hh hcl hoc' hiv hr4 hr1 h11) fun s12 h12 => ?_
  refine nextC_mid _ (st12 X T hh h12) fun s13 h13 => ?_
  obtain ⟨K, nK, hKD, h13⟩ := h13
  have efx : (md : Int) - ((2 ^ (9 - st - sz) : Nat) : Int) * ((md / 2 ^ (9 - st - sz) % 2 ^ sz : Nat) : Int) = ((md - 2 ^ (9 - st - sz) * (md / 2 ^ (9 - st - sz) % 2 ^ sz) : Nat) : Int) := by
    rw [Int.natCast_sub hf1, Int.natCast_mul]
  rw [efx] at h13
  refine nextC_mid _ (st13 (rws := rowsOf sz (md / 2 ^ (9 - st - sz) % 2 ^ sz)) (rot := rotOf sz (md / 2 ^ (9 - st - sz) % 2 ^ sz)) X T hh hg hdp hst (by omega) hl3 hiv hr4 (by have := List.idxOf_lt_length_iff.mpr hr1; omega) rfl hk1 hk2 hk3 hKD h13) fun s14 h14 => ?_
  obtain ⟨nK2, ps, hps, h14⟩ := h14
  have hkl : ∀ l ∈ keptTo (md - 2 ^ (9 - st - sz) * (md / 2 ^ (9 - st - sz) % 2 ^ sz)) (2 ^ (9 - st - sz)) st sz (rotOf sz (md / 2 ^ (9 - st - sz) % 2 ^ sz)) (rotOf sz (md / 2 ^ (9 - st - sz) % 2 ^ sz)).length, l.length = sz := by
    intro l hl
    obtain ⟨j, _, rfl⟩ := List.mem_map.mp hl
    exact stretch_length ..
  have hkn : (keptTo (md - 2 ^ (9 - st - sz) * (md / 2 ^ (9 - st - sz) % 2 ^ sz)) (2 ^ (9 - st - sz)) st sz (rotOf sz (md / 2 ^ (9 - st - sz) % 2 ^ sz)) (rotOf sz (md / 2 ^ (9 - st - sz) % 2 ^ sz)).length).length ≤ 64 := by
    rw [kept_length]
    have e : (rotOf sz (md / 2 ^ (9 - st - sz) % 2 ^ sz)).length ≤ (rowsOf sz (md / 2 ^ (9 - st - sz) % 2 ^ sz)).length := by
      unfold rotOf; rw [List.length_append, List.length_drop, List.length_take]; omega
    omega
  refine nextC_mid _ (st14 X T hh hg hdp (by omega) (by omega) hps hkl hkn (h14.mono fun m hm => ⟨hm.1.1, hm.1.2.1, hm.2.1, hm.2.2⟩)) fun s15 h15 => ?_
  refine nextC_mid _ (st15 X T hh hps (fun l hl => by rw [hkl l hl]; omega) hkn h15) fun s16 h16 => ?_
  rw [swp_flat (by omega) _ hkl] at h16
  refine wpC_execs_cons (wpC_mono (st16 X T hh h16) (fun f s' hf => ?_) fun _ _ e => e)
  obtain ⟨rfl, hf⟩ := hf
  exact ⟨rfl, hf⟩
end
end
/-! L1 -/
theorem fresh_L1 : True ∧ True := by
  w_top off
  first
    | (walk1; done)
    | exact ⟨trivial, trivial⟩
section
set_option maxRecDepth 100000
set_option maxHeartbeats 4000000
theorem walk1_start : PySem.Challenge.rw_pg0089_01.Holds := by
  refine hd ?_
  k_fill
  intro w s₀ s₁ mg mb G Y fa o pm cd doc dV kV ho hd hcd hD hmg hg args vals as hpre hlay hrd hwl hlo
  have KX := kIn_of Y
  have X := (Ground.X G).1
  have V := (Ground.X G).2
  refine Ground.open G ?_
  intro T B D TE TW
  try (refine guard_noD D (by decide +kernel) ?_; clear D)
  obtain ⟨_, _, M⟩ := bmod_of_top T
  have TA := at_of_top T
  try (obtain ⟨_, _, he, B0⟩ := based_of_top T rfl hmg ho hd; have he' : cd = _ := he; subst he'; clear he)
  clear hmg
  wrow_args hpre hlay hrd hwl hlo
  rename_i ns hsh hlay0 hL1 hr1 hl2 as4 as3 l vs as0 hl hra hwell hreads hints hrr hlen htriv
  have good : ∀ h' tk, Kp s₁.heap h' → GoodWG PySem.Challenge.rw_pg0089_01.row.claim (classAt s₀.heap) (ExcName.means s₀.heap) [ofPy (PyData.list (List.map PyData.int ns))] s₁ (Except.ok (Flow.ret (.bool true))) { s₁ with heap := h', toks := tk } := by
    intro h' tk hk
    refine GoodW.toG ⟨.inl ⟨_, .bool true, [], rfl, raisesW_false ?_, .bool _, ?_, unshared_nil⟩, hk, rfl, hg⟩
    · wrow_none_raised
    · wrow_post
  have hdV : dV = .none := hD.pos.elim (·.2) fun y => absurd rfl y.1
  have hkV : kV = .none := hD.noKw
  subst hdV hkV
  clear G Y hD B TE TW TA B0 V X
  have X := KX
  clear KX M hsh hlay0 hL1 hr1 hl2 hra hwell hreads hrr htriv
  dsimp only [docDef] at hd hcd
  refine callC_cells (binds := [(Str.ofString "script", .ref l)]) T.nolimit (by decide) ho hd hcd rfl ?hk ?hn ?_
  case hk => exact kindsX rfl
  case hn => decide +kernel
  intro h1 tk1 cells F1 N1 Y1
  k_cells Y1
  clear ho hd hcd
  change Fr s₁.heap s₁.heap.objs.size h1 (fun y => if y = Str.ofString "script" then some (Value.ref l) else none) at F1
  refine nextC_stop ?_
  k_steps
  all_goals (try k_data)
  rename_i D1 ws1 h2 F2 N2 hi2 hc2 hl2 lt2
  have hlw := ints_length hi2
  refine compA_list (s := ⟨h2, _, _, _, _⟩) (G := fun v y => ∃ n t t', v = .int n t ∧ y = .int (n.fmod 1000000) t') rfl F2 N2 (N2.isList (.head _)) (by rw [hlw, PySem.sizeLine_eq]; omega) ?_ ?_
  · intro C v s₃ m₃ E' hv hn hm hk
    obtain ⟨n, t, _, rfl⟩ := ints_mem hi2 hv
    have hk3 : Kp s₁.heap s₃.heap := fun b o e => hk b o (F2.keep b o e)
    refine wpAny_BinOp (Call_ (name_blt X T hk3 (by k_is) boot_int ?_))
    refine Pv.callWith_type1 (args_cons (wpAny_Name (wpAny_loadName_local rfl rfl hn hm (args_nil (call_int_int ?_)))))
    refine wpAny_stop ?_
    k_steps
    unfold Stop
    exact mod_int' (by decide) ⟨⟨n, t, _, rfl, rfl⟩, _, _, rfl, fun _ _ e => e⟩
  intro D2 h3 tk3 ys nn hp F3 N3
  have hi3 := ints_paired (f := fun n => n.fmod 1000000) hi2 hp
  clear F2 N2
  dsimp only [Stop]
  have hlen3 := ints_length hi3
  simp only [List.length_map] at hlen3
  change Fr s₁.heap s₁.heap.objs.size h3 _ at F3
  change News s₁.heap s₁.heap.objs.size h3 _ at N3
  clear hi2 hlw hp
  rename _ = Data.cell _ => d1
  refine wpC_mono (law_rest (s := s₁) (cl := s₁.heap.objs.size + 1) (D2 := D2) X T rfl rfl (show callerA.depth + 1 + 9 < recursionLimit by decide) rfl d1 hi3 ?_ ?_ ⟨h3, tk3, _, rfl, F3, news_two N3 (.head _) (.tail _ (.tail _ (.head _))), rfl⟩) (fun f s' hf => ?_) fun _ _ e => e
  · rw [List.length_map, List.length_take]; omega
  · intro d hd
    obtain ⟨n, _, rfl⟩ := List.mem_map.mp hd
    show 0 ≤ n.fmod 1000000 ∧ n.fmod 1000000 < 1000000
    rw [Int.fmod_eq_emod_of_nonneg _ (by decide)]
    omega
  · obtain ⟨rfl, h', tk, rfl, hk⟩ := hf
    exact good h' tk hk
end
end Mine
set_option maxRecDepth 100000 in
set_option maxHeartbeats 8000000 in
theorem PySem.Challenge.cw_pg0089_01_holds : PySem.Challenge.rw_pg0089_01.Holds :=
  Mine.walk1_start
