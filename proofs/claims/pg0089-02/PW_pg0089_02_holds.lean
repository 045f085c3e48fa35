import PyProof.Rows.All
import Wide.All
import OpenK.AllK
import Wide.FinOn
import PySem.Challenge.RW_pg0089_02
open PySem PySem.W PyProof.Rows PySem.Spec PySem.Calls
set_option Elab.async false
namespace Mine
/-! Core -/
section
set_option maxRecDepth 100000

/-- no frame of a decoder that holds its argument: what `exported` looks for on the stack beside the guards -/
def okCode : Code → Bool
  | .builtin id _ => !Builtin.Bytes.decodersThatHold.contains id
  | _ => true
def BelowOk (Γ : PySem.Ctx) : Prop := ∀ x ∈ Γ.below, okCode x.1 = true
def Cl (Γ : PySem.Ctx) : Prop := okCode Γ.code = true ∧ BelowOk Γ

def wpC {α : Type} (M : Model) (A : Around) (t : Sem α) (Q : α → Shared → Prop) (E : Value → Shared → Prop) (s : Shared) : Prop :=
  ∀ (Γ : PySem.Ctx) p, Γ.In A → Cl Γ → Sem.wp M Γ t (fun a _ s' => Q a s') (fun e _ s' => E e s') p s
def codeC (M : Model) (A : Around) (c : Code) (R : Result → Shared → Prop) (s : Shared) : Prop :=
  ∀ (Γ : PySem.Ctx) p, Γ.code = c → Γ.Below A → BelowOk Γ → wpCode M Γ R p s

section
variable {α β : Type} {M : Model} {A : Around} {E : Value → Shared → Prop} {s : Shared}

theorem wpC_of_any {t : Sem α} {Q : α → Shared → Prop} (h : wpAny M A t Q E s) : wpC M A t Q E s := fun Γ p hΓ _ => h Γ p hΓ
theorem wpC_pure {a : α} {Q : α → Shared → Prop} (h : Q a s) : wpC M A (pure a) Q E s := fun _ _ _ _ => h
theorem wpC_mono {t : Sem α} {Q Q' : α → Shared → Prop} {E' : Value → Shared → Prop} (h : wpC M A t Q E s)
    (hQ : ∀ a s, Q a s → Q' a s) (hE : ∀ e s, E e s → E' e s) : wpC M A t Q' E' s :=
  fun Γ p hΓ hc => Sem.wp_mono M Γ t (fun a _ s => hQ a s) (fun e _ s => hE e s) p s (h Γ p hΓ hc)
theorem wpC_bind {m : Sem α} {f : α → Sem β} {Q : β → Shared → Prop} (h : wpC M A m (fun a s' => wpC M A (f a) Q E s') E s) :
    wpC M A (m >>= f) Q E s := fun Γ p hΓ hc => by
  rw [Sem.wp_bind']
  exact Sem.wp_mono M Γ m (fun a p' s' h' => h' Γ p' hΓ hc) (fun _ _ _ h' => h') p s (h Γ p hΓ hc)
/-- a tree that the library's logic serves, what follows in the clean one -/
theorem wpC_seq {m : Sem α} {f : α → Sem β} {Q : β → Shared → Prop} (h : wpAny M A m (fun a s' => wpC M A (f a) Q E s') E s) :
    wpC M A (m >>= f) Q E s := wpC_bind (wpC_of_any h)
theorem wpC_holding {vs : List Value} {m : Sem α} {Q : α → Shared → Prop} (h : wpC M A m Q E s) : wpC M A (holding vs m) Q E s :=
  fun Γ p hΓ hc => by rw [Sem.wp_holding]; exact h Γ p hΓ hc
theorem wpC_onRaise {m : Sem α} {k : Value → Sem Unit} {Q : α → Shared → Prop}
    (h : wpC M A m Q (fun e s' => wpC M A (k e) (fun _ s'' => E e s'') E s') s) : wpC M A (m.onRaise k) Q E s := fun Γ p hΓ hc => by
  rw [Sem.wp_onRaise]
  exact Sem.wp_mono M Γ m (fun _ _ _ h' => h') (fun e p' s' h' => h' Γ p' hΓ hc) p s (h Γ p hΓ hc)
theorem codeC_mono {c : Code} {R R' : Result → Shared → Prop} (h : codeC M A c R s) (hR : ∀ r s, R r s → R' r s) : codeC M A c R' s :=
  fun Γ p hc hΓ hb => wpCode_mono hR (h Γ p hc hΓ hb)

theorem enter_ok {Γ : PySem.Ctx} (hc : Cl Γ) (c : Code) (h : Option Value) (p : Pos) : BelowOk (Γ.enter c h p) := fun x hx => by
  rcases List.mem_cons.mp hx with rfl | hx
  · exact hc.1
  · exact hc.2 x hx
theorem wpC_run {c : Code} {h : Option Value} {Q : Flow → Shared → Prop}
    (hc : codeC M (A.mark h) c (fun r s' => match r with | .ok f => Q f s' | .error e => E e s') s) (hnb : h ≠ some byPass := by intro x; cases x) :
    wpC M A (run c h) Q E s :=
  fun Γ p hΓ hcl => by rw [Sem.wp_run]; exact hc _ p rfl (hΓ.enter c h p hnb) (enter_ok hcl _ _ _)
theorem wpC_runValue {c : Code} {Q : Value → Shared → Prop}
    (hc : codeC M A c (fun r s' => match r with | .ok (.ret v) => Q v s' | .ok _ => False | .error e => E e s') s) :
    wpC M A (runValue c) Q E s := fun Γ p hΓ hcl => by rw [Sem.wp_runValue]; exact hc _ p rfl (hΓ.enter c none p (by intro x; cases x)) (enter_ok hcl _ _ _)
theorem wpC_call {f : Value} {pos : List Value} {kw : List (Str × Value)} {Q : Value → Shared → Prop}
    (hc : codeC M A (.call f ⟨pos, kw⟩) (fun r s' => match r with | .ok (.ret v) => Q v s' | .ok _ => False | .error e => E e s') s) :
    wpC M A (call f pos kw) Q E s := wpC_runValue hc
theorem codeC_of_tree {c : Code} {R : Result → Shared → Prop}
    (h : wpC M (A.under c) (M.den c) (fun fin s' => match fin with | .done f => R (.ok f) s' | .again c' => c'.quiet = true ∧ codeC M A c' R s')
      (fun e s' => R (.error e) s') s) (ok : okCode c = true := by rfl) : codeC M A c R s := fun Γ p hc hΓ hb => by
  rw [wpCode_iff_wp, hc]
  refine Sem.wp_mono M Γ _ (fun fin p' s' h' => ?_) (fun _ _ _ h' => h') p s (h Γ p (hc ▸ hΓ.in) ⟨by rw [hc]; exact ok, hb⟩)
  cases fin with
  | done f => exact h'
  | again c' => exact ⟨h'.1, h'.2 (Γ.goto c') p' rfl (hΓ.goto c') hb⟩
end

section
variable {prog : Program} {w : World} {A : Around} {s : Shared} {R : Result → Shared → Prop}
theorem codeC_builtin {id : String} {args : Args} {b : Builtin} (hb : entryFor table id = some b) (ok : okCode (.builtin id args) = true)
    (h : wpC (model prog w) (A.under (.builtin id args)) (b args)
      (fun fin s' => match fin with | .done f => R (.ok f) s' | .again c' => c'.quiet = true ∧ codeC (model prog w) A c' R s') (fun e s' => R (.error e) s') s) :
    codeC (model prog w) A (.builtin id args) R s := by
  refine codeC_of_tree ?_ ok
  show wpC _ _ (match entryFor table id with | some b => b args | none => unsupported ((withoutEnding? id "#data").getD id)) _ _ s
  rw [hb]; exact h
theorem codeC_call_builtin {id : String} {args : Args} {b : Builtin} (hq : plainId id = true) (hb : entryFor table id = some b) (ok : okCode (.builtin id args) = true)
    (h : wpAny (model prog w) A.in1 (checkBuiltinCall id args) (fun _ s₁ => wpC (model prog w) A.in1 (b args)
      (fun fin s' => match fin with | .done f => R (.ok f) s' | .again c' => c'.quiet = true ∧ codeC (model prog w) A c' R s') (fun e s' => R (.error e) s') s₁)
      (fun e s' => R (.error e) s') s) : codeC (model prog w) A (.call (.builtin id) args) R s := by
  refine codeC_of_tree ?_
  show wpC _ A.in1 (do checkBuiltinCall id args; again (.builtin id args)) _ _ s
  refine wpC_seq (wpAny_mono h (fun _ s₁ h₁ => wpC_pure (And.intro (plainId_quiet hq args) (codeC_builtin hb ok ?_))) fun _ _ h' => h')
  rw [Around.under_plainId hq args]; exact h₁
end

section
variable {M : Model} {A : Around} {E : Value → Shared → Prop} {s : Shared} {env : Env}
theorem wpC_execs_nil {Q : Flow → Shared → Prop} (h : Q .next s) : wpC M A (execs [] env) Q E s := fun _ _ _ _ => h
theorem wpC_execs_cons {st rest} {Q : Flow → Shared → Prop}
    (h : wpC M A (exec st env) (fun f s' => match f with | .next => wpC M A (execs rest env) Q E s' | f => Q f s') E s) :
    wpC M A (execs (st :: rest) env) Q E s := fun Γ p hΓ hc => by
  rw [execs_cons, Sem.wp_bind']
  refine Sem.wp_mono M Γ _ (fun f p' s' h' => ?_) (fun _ _ _ h' => h') _ _ (h Γ p hΓ hc)
  cases f <;> first | exact h' Γ p' hΓ hc | exact h'
/-- the next statement in the library's logic -/
theorem wpC_next {st rest} {Q : Flow → Shared → Prop}
    (h : wpAny M A (exec st env) (fun f s' => match f with | .next => wpC M A (execs rest env) Q E s' | f => Q f s') E s) :
    wpC M A (execs (st :: rest) env) Q E s := wpC_execs_cons (wpC_of_any h)
theorem wpC_Assign_Name {x pos' value pos} {Q : Flow → Shared → Prop}
    (h : wpC M A (eval value env) (fun v s₁ => wpAny M A (storeName env x v) (fun _ => Q .next) E s₁) E s)
    (hs : swapsWith value (some (.Name x pos')) pos.line env = pure false := by rfl) :
    wpC M A (exec (.Assign [.Name x pos'] value pos) env) Q E s := fun Γ p hΓ hc => by
  simp only [exec_Assign_Name env x pos' value pos hs, Sem.wp_bind', Sem.wp_cmd_standAt, Sem.wp_bindName, Sem.wp_pure']
  exact Sem.wp_mono M Γ _ (fun v _ s₁ h₁ => h₁ Γ _ hΓ) (fun _ _ _ h' => h') _ _ (h Γ _ hΓ hc)
theorem wpC_Return_some {e pos} {Q : Flow → Shared → Prop} (h : wpC M A (eval e env) (fun v => Q (.ret v)) E s) :
    wpC M A (exec (.Return (some e) pos) env) Q E s := fun Γ p hΓ hc => by
  simp only [exec_Return_some, Sem.wp_bind', Sem.wp_cmd_standAt, Sem.wp_pure']; exact h Γ _ hΓ hc
theorem wpC_Compare1 {l op r pos} {Q : Value → Shared → Prop}
    (h : wpC M A (eval l env) (fun a s₁ => wpC M A (eval r env) (fun b s₂ => wpAny M A (compareOp op a b) Q E s₂) E s₁) E s)
    (hm : behindInMarks op r = false := by with_unfolding_all rfl) :
    wpC M A (eval (.Compare l [op] [r] pos) env) Q E s := fun Γ p hΓ hc => by
  simp only [eval_Compare1, markedBehindIn_of_false hm, Sem.wp_bind', Sem.wp_holding, Sem.wp_cmd_standAt, Sem.wp_operate]
  exact Sem.wp_mono M Γ _ (fun a p₁ s₁ h₁ => Sem.wp_mono M Γ _ (fun b _ s₂ h₂ => h₂ Γ _ hΓ) (fun _ _ _ h' => h') _ _ (h₁ Γ p₁ hΓ hc))
    (fun _ _ _ h' => h') _ _ (h Γ p hΓ hc)
end
end
/-! Head -/
section
set_option maxRecDepth 100000

theorem caller_clean : Cl ⟨.builtin "claim.caller" {}, none, none, [], none⟩ := ⟨by decide +kernel, fun _ hx => nomatch hx⟩

theorem ends_of_clean {prog : Program} {w : World} {t : Sem Fin} {s : Shared} {R : Result → Shared → Prop} (hreg : s.asleep)
    (h : wpC (model prog w) callerA t (fun fin s' => ∃ f, fin = .done f ∧ (R (.ok f) s' ∧ leftWithCleanup s'.gens = false)) (fun e s' => R (.error e) s' ∧ leftWithCleanup s'.gens = false) s) :
    ∃ n r s' s'', runN (denote table) prog w n s ⟨t, .builtin "claim.caller" {}, default, []⟩ = .halted (outcomeOf r) s' ∧
      schedN (denote table) prog w n (.single s ⟨t, .builtin "claim.caller" {}, default, []⟩) = .halted (outcomeOf r) s' ∧ s'.forget = s''.forget ∧ R r s'' := by
  have hw : Sem.wp (model prog w) ⟨.builtin "claim.caller" {}, none, none, [], none⟩ t
      (Sem.finPost (model prog w) ⟨.builtin "claim.caller" {}, none, none, [], none⟩ fun r s' => R r s' ∧ leftWithCleanup s'.gens = false)
      (fun e _ s' => R (.error e) s' ∧ leftWithCleanup s'.gens = false) default s := by
    refine Sem.wp_mono _ _ t (fun fin p' s' h' => ?_) (fun _ _ _ h' => h') default s (h _ default caller_in caller_clean)
    obtain ⟨f, rfl, hf⟩ := h'
    exact hf
  obtain ⟨n, r, s₁, s₂, hs, hn, hfo, hR⟩ := wp_halts_full (M := model prog w) (R := R) hreg hw
  exact ⟨n, r, s₂, s₁, hn, hs, hfo, hR⟩

/-- the walk's goal: as the library's, in the clean logic -/
abbrev WalkClean (q : Program) (loose : List Str) (XP : (Str → Option Value) → Heap → Prop) (YP : World → Heap → Prop) (r : RowW) (d : DefRec) (kwd : List (Str × Expr)) : Prop :=
  ∀ (w : World) (s₀ s₁ : Shared) (mg mb : Str → Option Value), Ground q loose r.records XP w s₀ mg mb s₁.heap → YP w s₁.heap → ∀ (a : Addr) (o : Obj) (pm cd doc dV kV : Value), s₁.heap.get? a = some o →
    o.data = .func { docDef d.name d.params d.body d.scope pm cd doc with defaults := dV, kwdefaults := kV } → s₁.heap.CodeRec cd d.name → Dflts mg s₁.heap d.params kwd dV kV → mg d.name = some (.ref a) → s₁.gens = #[] →
    ∀ (args : List WData) (vals : List Value) (as : List Addr), r.claim.pre args = true → WData.layableAll args = true → ReadsAllW r.records (classAt s₀.heap) s₁.heap vals args as → WellAll w.params s₁.heap vals args → (∀ a ∈ as, (a == sysModules) = false) →
      wpC (model r.prog w) callerA (PySem.call (.ref a) vals) (fun v s' => GoodWG r.claim (classAt s₀.heap) (ExcName.means s₀.heap) args s₁ (.ok (.ret v)) s')
        (fun e s' => GoodWG r.claim (classAt s₀.heap) (ExcName.means s₀.heap) args s₁ (.error e) s') s₁

/-- behind the start-up, which the library knows: under a name of its own, so the kit's head is closed in one look of the kernel, not in pieces (8.7 MB of twins less) -/
abbrev LeftX (p q : Program) (loose : List Str) (Xt : Shared → Bool) {α : Type} (Yf : Shared → α) (Ya : World → α) (N : Nat) : Prop :=
  ∀ w : World, (fun os => (topFrom treeTable p w N ⟨boot_heap w.params, Array.mk [], boot_drawn, boot_toks, os⟩).map (fun s => (openSeen q loose (importedModules p.main.body) Xt true s, Yf s))) = fun _ => some (openGood q loose, Ya w)
theorem leftX_open {p q : Program} {loose : List Str} {Xt : Shared → Bool} {α : Type} {Yf : Shared → α} {Ya : World → α} {N : Nat} (h : LeftX p q loose Xt Yf Ya N) (e : opening p = plainProg p.main.scope.names) (hN : Nat.ble 600 N = true) (f : ∀ s, fenceModules? p s = some s) :
    LeftO p q loose Xt Yf Ya N := by
  intro w
  unfold openEnds
  obtain ⟨⟨hp, g, d, k, os⟩, hs, hv⟩ := Option.map_eq_some_iff.mp (boot_open e hN f w)
  rw [hs]
  simp only [Prod.mk.injEq] at hv
  obtain ⟨rfl, rfl, rfl, rfl⟩ := hv
  exact congrFun (h w) os
theorem PySem.W.holds_open {r : OpenRow} {q : Program} {loose : List Str} {Xt : Shared → Bool} {XP : (Str → Option Value) → Heap → Prop} {α : Type} {Yf : Shared → α} {Ya : World → α} {YP : World → Heap → Prop} {d : DefRec} {kwd : List (Str × Expr)} {N : Nat}
    (left : LeftX r.prog q loose Xt Yf Ya N) (hY : ∀ w s, Yf s = Ya w → YP w s.heap) (hYk : ∀ w h h', YP w h → (∀ b o, h.get? b = some o → h'.get? b = some o) → YP w h')
    (hX : ∀ s, Xt s = true → XP (s.heap.nsMap mainGlobals) s.heap) (hXk : ∀ mg h h', XP mg h → (∀ b o, h.get? b = some o → h'.get? b = some o) → XP mg h')
    (hdef : defOf q r.name = some (d, kwd)) (hp : r.prog.theDef r.name = some (d.params, d.body, d.scope)) (hk : kwWritten? d.params.kwonlyargs d.params.kw_defaults = some kwd) (hRf : ∀ s, Xt s = true → RecFacts r.records s.heap) (hwr : (!r.writes || r.records.isEmpty) = true)
    (k1 : r.wellSaid = true) (ok : (chainsOk q && opensWell r.prog && (frees r.toRowW && r.within.isEmpty)) = true) (hb : r.prog.bare) (hw : r.toRowW.promised)
    (call : WalkClean q loose XP YP r.toRowW d kwd)
    (op : opening r.prog = plainProg r.prog.main.scope.names := by rfl) (hN : Nat.ble 600 N = true := by rfl) (fe : ∀ s, fenceModules? r.prog s = some s := by intro _; rfl) : r.Holds := by
  have left : LeftO r.prog q loose Xt Yf Ya N := leftX_open left op hN fe
  refine ⟨k1, hw, ?_⟩
  obtain ⟨ok, k5⟩ := Bool.and_eq_true_iff.mp ok
  obtain ⟨hch, o1⟩ := Bool.and_eq_true_iff.mp ok
  obtain ⟨k5, k6⟩ := Bool.and_eq_true_iff.mp k5
  obtain ⟨hsame, hu, ha, hap, hm⟩ := frees_parts k5
  have hi := ident_freeW hu ha hap
  have hwi : r.toRowW.claim.within = [] := List.isEmpty_iff.mp k6
  refine ⟨⟨hb, o1, by show r.makers.map _ = []; rw [hm]; rfl⟩, hw.witness, fun w => ⟨(left.behind hX hch w).1, fun s' hs' => ?_⟩⟩
  obtain ⟨s₀, hf, hg0, s, hT, hz, hgens, hg, G00, y⟩ := (left.behind (XP := fun mg h => XP mg h ∧ RecFacts r.records h) (fun s hs => ⟨hX s hs, hRf s hs⟩) hch w).2 s' hs'
  have G0 : Ground q loose [] XP w s (s.heap.nsMap mainGlobals) (s.heap.nsMap builtinsNs) s.heap := ⟨G00.T, G00.B, G00.D, G00.TE, G00.TD, G00.W, G00.X.1, G00.cls, G00.has, G00.apart, G00.once, G00.K⟩
  have RF := G00.X.2
  have hgens : s.gens = #[] := Array.eq_empty_of_size_eq_zero (beq_iff_eq.mp hgens)
  have G : Ground q loose r.records XP w s _ _ s.heap := RF.ground G0
  refine ⟨s₀, hf, hg0, s, hT, fun n hn => ?_, RF.1, RF.2.1, ?_⟩
  · obtain rfl : n = r.name := by split at hn <;> simp_all
    exact pinned_of_view hg G0 hdef hp hk
  intro args hpre hlay ord hord
  obtain ⟨⟨vs, s₁⟩, hlaid⟩ := Option.isSome_iff_exists.mp (layAllW_isSome (P := w.params) (ord := ord) G.has args r.args s (pre_splitW hpre).1)
  have keeps := layAllW_keeps _ _ _ hlaid
  have hal := layAllW_rest _ _ _ hlaid
  obtain ⟨as, hrd, hin, hold⟩ := reads_layAllW hord _ _ _ hlaid hlay s₁.heap (fun _ _ e => e)
  have L : Laid r.records w s s₁ args vs as := ⟨⟨ord, hord, hlaid⟩, hrd, hin, hold, keeps, hal.1.trans hgens, hal.2.2.1⟩
  have G₁ := G.keeps hXk keeps
  obtain ⟨a, o, pm, cd, doc, dV, kV, h1, h2, h3, h4, h5⟩ := G₁.fn hdef
  have walk := call w s s₁ _ _ G₁ (hYk _ _ _ (hY w s y) keeps) a o pm cd doc dV kV h2 h3 h4 h5 (defOf_name hdef ▸ h1) L.gens args vs as hpre hlay L.reads L.well (L.low G.low)
  obtain ⟨k, e, s₂, s₃, hrun, hsched, hfo, hcase, hos, hkp⟩ := ends_of_clean (prog := r.prog) (w := w)
    (t := do match ← nsGet mainNs r.name with
      | some f => do ret (← PySem.call f vs)
      | none => unsupported "claim.caller:no-such-global") (s := s₁)
    (R := fun x s' => r.toRowW.claim.Ends s args vs s₁ x s' ∧ s'.os = s.os ∧ (r.writes = true → namesKept r.prog r.keeps s.heap s'.heap ∧ ∀ x ∈ r.records, ∀ a, classAt s.heap x.1 = some a → recordClass s'.heap a x.1 (x.2.map (·.1)) = true))
    (Shared.asleep_of_life hal.2.2.2 hz) (by
      refine wpC_seq (wpAny_nsGet G₁.T.g ?_)
      rw [h1]
      refine wpC_bind (wpC_mono walk (fun v s' g => wpC_pure ?_) fun e s' g => ?_)
      · have z := g.laid (c := r.toRowW.claim) hsame hwi hi L
        exact ⟨_, rfl, ⟨z.1, z.2.1, fun q => ⟨namesKept_of hT hg r.keeps keeps g.2.1.old, noTable hwr q⟩⟩, leftWithCleanup_false_of_bare z.2.2⟩
      · have z := g.laid (c := r.toRowW.claim) hsame hwi hi L
        exact ⟨⟨z.1, z.2.1, fun q => ⟨namesKept_of hT hg r.keeps keeps g.2.1.old, noTable hwr q⟩⟩, leftWithCleanup_false_of_bare z.2.2⟩)
  obtain ⟨eh, _, _, eo, _⟩ := Shared.forget_eq hfo
  have hcase := hcase.congr eh
  rw [← eh] at hkp
  rw [← eo] at hos
  have hlife : s₂.heap.life = s.heap.life := (runN_life _ _ _ hrun).trans hal.2.2.2
  refine ⟨vs, s₁, hlaid, k, _, s₂, hsched, ?_, (fun _ i x hx => by rw [hgens] at hx; simp at hx), hkp, by rw [hlife], Shared.rest_eq hos⟩
  rcases hcase with ⟨v, rfl, d1, d2, d3, d4, d5⟩ | ⟨e, ob, cls, rfl, d1, d2, d3, d4, d5⟩
  · exact .inl ⟨v, rfl, d1, d2, d3, fun b o y _ => d4 b o y, d5⟩
  · exact .inr ⟨e, ob, cls, rfl, d1, d2, d3, d4, fun b o y _ => d5 b o y⟩
end
/-! Byt -/
section
set_option maxRecDepth 100000
set_option maxHeartbeats 4000000
theorem mro_ba : mroOf (.type "bytearray") = pure [.type "bytearray", .type "object"] := by rw [mroOf_type]; kernel_rfl
theorem lookup_ba_new : typeLookup (.type "bytearray") "__new__" = pure (some (.builtin "bytearray.__new__")) := by rw [typeLookup_type, builtinLookup_eq_fast]; kernel_rfl
theorem slot_ba_init : Slot "bytearray" "__init__" "bytearray.__init__" :=
  .of (owner := "bytearray") (n := "__init__") (by rw [typeLookup_type, builtinLookup_eq_fast]; kernel_rfl) (by decide +kernel) (by decide +kernel) (by decide +kernel)
    (by first | exact .inl (by decide +kernel) | exact .inr (by decide +kernel)) (by rw [isSubtype_type]; kernel_rfl)
theorem slot_ba_setitem : Slot "bytearray" "__setitem__" "bytearray.__setitem__" :=
  .of (owner := "bytearray") (n := "__setitem__") (by rw [typeLookup_type, builtinLookup_eq_fast]; kernel_rfl) (by decide +kernel) (by decide +kernel) (by decide +kernel)
    (by first | exact .inl (by decide +kernel) | exact .inr (by decide +kernel)) (by rw [isSubtype_type]; kernel_rfl)
theorem sub_ba : isSubtype (.type "bytearray") (.type "bytearray") = pure true := by rw [isSubtype_type]; kernel_rfl
theorem called_ba : TypeCalled "bytearray" "bytearray.__new__" "bytearray.__init__" :=
  ⟨by decide +kernel, by decide +kernel, ⟨_, _, mro_ba⟩, madeBy_type mro_ba lookup_ba_new (by decide +kernel), by decide +kernel, sub_ba, slot_ba_init⟩
theorem typeCall_ba (a : Value) : checkTypeCall "bytearray" ⟨[a], []⟩ = pure () := by kernel_rfl
theorem newCall_ba (a : Value) : checkBuiltinCall "bytearray.__new__" ⟨[.type "bytearray", a], []⟩ = pure () := by kernel_rfl
theorem plain_ba_new : plainId "bytearray.__new__" = true := by decide +kernel
theorem entry_ba_new : entryFor table "bytearray.__new__" = some Builtin.«list.__new__» :=
  entryFor_alias (id' := "list.__new__") (by kernel_rfl) (by first | rfl | decide +kernel | (unfold String.splitOn; simp +decide [String.splitOnAux])) (by decide +kernel) (by kernel_rfl)
theorem entry_ba_init : entryFor table "bytearray.__init__" = some Builtin.«bytearray.__init__» := by first | exact entryFor_of_fast (by kernel_rfl) | exact entryFor_of_tree (by kernel_rfl)
theorem entry_ba_setitem : entryFor table "bytearray.__setitem__" = some Builtin.«bytearray.__setitem__» := by first | exact entryFor_of_fast (by kernel_rfl) | exact entryFor_of_tree (by kernel_rfl)
theorem owner_ba_new : ("bytearray.__new__".splitOn ".__new__").headD "" = "bytearray" := by simp +decide [String.splitOn, String.splitOnAux]
theorem args_ba_init (a b : Value) : argsOk "bytearray.__init__" ⟨[a, b], []⟩ := by unfold argsOk; kernel_rfl
theorem args_ba_setitem (a b c : Value) : argsOk "bytearray.__setitem__" ⟨[a, b, c], []⟩ := by unfold argsOk; kernel_rfl
theorem look_ba_release : typeLookup (.type "bytearray") "__release_buffer__" = pure (some (.builtin "bytearray.__release_buffer__")) := by rw [typeLookup_type, builtinLookup_eq_fast]; kernel_rfl
theorem look_ba_buffer : typeLookup (.type "bytearray") "__buffer__" = pure (some (.builtin "bytearray.__buffer__")) := by rw [typeLookup_type, builtinLookup_eq_fast]; kernel_rfl
theorem look_int_index : typeLookup (.type "int") "__index__" = pure (some (.builtin "int.__index__")) := by rw [typeLookup_type, builtinLookup_eq_fast]; kernel_rfl
theorem ba_bind (v : Value) : Builtin.Bytes.bindOptional "bytearray.__init__" "bytearray" ["source", "encoding", "errors"] [v] [] = pure [some v, none, none] := by kernel_rfl

theorem typeCall_tree (v : Value) : Builtin.«type.__call__» ⟨[.type "bytearray", v], []⟩ = (do
      let obj ← holding [Value.builtin "bytearray.__new__"] (call (Value.builtin "bytearray.__new__") [Value.type "bytearray", v])
      let d ← isInstance obj (Value.type "bytearray")
      if (!d) = true then do
          rule "type.call.new-gave-other-type"
          ret obj
        else do
          let d ← holding [obj] (callSpecial? obj (Str.ofString "__init__") [v])
          match d with
            | none => ret obj
            | some r =>
              if (r != Value.none) = true then do
                rule "type.call.init-returned-value"
                let d ← PySem.typeNameOf r
                raiseErrorMade "TypeError" (toString "__init__() should return None, not '" ++ toString d ++ toString "'")
                ret obj
              else ret obj) := by
  unfold Builtin.«type.__call__»
  have h1 := called_ba.notType
  have h2 := called_ba.canCreate
  have h3 := called_ba.made
  simp only [h1, h2, h3, mro_ba, typeCall_ba, pure_bind, Bool.false_eq_true, if_false, List.isEmpty_cons]
  rfl

def baObj (b : Array UInt8) : Obj := { cls := .type "bytearray", data := .bytearray b }

section
variable {prog : Program} {w : World} {A : Around} {E : Value → Shared → Prop} {s : Shared}
theorem code_ba_new (a : Value) {Q₁ : Value → Shared → Prop}
    (h : Q₁ (.ref s.heap.objs.size) { s with heap := s.heap.push (baObj #[]) }) :
    codeAny (model prog w) A (.call (.builtin "bytearray.__new__") ⟨[.type "bytearray", a], []⟩) (wants Q₁ E) s := by
  refine codeAny_of_tree ?_
  show wpAny _ A.in1 (do checkBuiltinCall "bytearray.__new__" ⟨[.type "bytearray", a], []⟩; again (.builtin "bytearray.__new__" ⟨[.type "bytearray", a], []⟩)) _ _ s
  refine wpAny_bind (wpAny_of_eq (newCall_ba a) (wpAny_pure ⟨plainId_quiet plain_ba_new _, codeAny_builtin_stack entry_ba_new rfl fun p st => ?_⟩))
  rw [Around.under_plainId plain_ba_new _]
  have hsub := sub_ba
  have hown := owner_ba_new
  obtain ⟨hp, g, d, tk, os⟩ := s
  simp only [hown]
  wp_walk
  exact h

theorem exported_any {S : Addr} : ∀ {l : List (Code × Pos)}, guardsOf l = [] → (∀ x ∈ l, okCode x.1 = true) → (l.any fun
    | (.builtin "bytearray.__contains__" ⟨v :: _, _⟩, _) | (.builtin "bytearray.__mod__" ⟨v :: _, _⟩, _)
    | (.builtin "bytearray.__rmod__" ⟨_ :: v :: _, _⟩, _) | (.builtin "_struct.pack_into.held" ⟨v :: _, _⟩, _) => Builtin.Bytes.sameRef v (.ref S)
    | (.builtin "bytearray.find.held" ⟨_ :: _ :: held, _⟩, _) => held.any (Builtin.Bytes.sameRef (.ref S))
    | (.builtin id ⟨v :: _, _⟩, _) => Builtin.Bytes.sameRef v (.ref S) && Builtin.Bytes.decodersThatHold.contains id
    | _ => false) = false := by
  intro l hg hc
  rw [List.any_eq_false]
  rintro ⟨c, p⟩ hx
  have hcl := hc _ hx
  have hng : c.isGuard = false := by
    cases q : c.isGuard with
    | false => rfl
    | true =>
      have : c ∈ guardsOf l := List.mem_filter.mpr ⟨List.mem_map.mpr ⟨_, hx, rfl⟩, q⟩
      rw [hg] at this; cases this
  split <;> simp_all [Code.isGuard, guardIds, okCode]

theorem wpC_exported {M : Model} {S : Addr} {Q : Bool → Shared → Prop} (hg : A.guards = some []) (h : Q false s) : wpC M A (Builtin.Bytes.exported (.ref S)) Q E s := fun Γ p hΓ hc => by
  unfold Builtin.Bytes.exported
  rw [Sem.wp_bind']
  unfold stack
  rw [Sem.wp_stack]
  have e := exported_any (S := S) (l := (Γ.code, p) :: Γ.below) (by rw [guardsOf_cons]; exact hΓ.2.2.2.1 _ hg) (fun x hx => by
    rcases List.mem_cons.mp hx with rfl | hx
    · exact hc.1
    · exact hc.2 x hx)
  have h' := h
  rw [← e] at h'
  exact h'
end
end
/-! Byt2 -/
section
set_option maxRecDepth 100000
set_option maxHeartbeats 4000000
section
variable {α : Type} {M : Model} {A : Around} {E : Value → Shared → Prop} {s : Shared}
theorem wpC_of_eq {t : Sem α} {a : α} {Q : α → Shared → Prop} (e : t = pure a) (h : Q a s) : wpC M A t Q E s := by rw [e]; exact wpC_pure h
theorem wpC_if_false {c : Bool} {a b : Sem α} {Q : α → Shared → Prop} (hc : c = false) (h : wpC M A b Q E s) : wpC M A (if c = true then a else b) Q E s := by
  rw [if_neg (by rw [hc]; exact Bool.false_ne_true)]; exact h
theorem any_if_false {c : Bool} {a b : Sem α} {Q : α → Shared → Prop} (hc : c = false) (h : wpAny M A b Q E s) : wpAny M A (if c = true then a else b) Q E s := by
  rw [if_neg (by rw [hc]; exact Bool.false_ne_true)]; exact h
theorem any_if_true {c : Bool} {a b : Sem α} {Q : α → Shared → Prop} (hc : c = true) (h : wpAny M A a Q E s) : wpAny M A (if c = true then a else b) Q E s := by
  rw [if_pos hc]; exact h
theorem any_if_neg {c : Prop} [Decidable c] {a b : Sem α} {Q : α → Shared → Prop} (hc : ¬ c) (h : wpAny M A b Q E s) : wpAny M A (if c then a else b) Q E s := by
  rw [if_neg hc]; exact h
theorem any_if_pos {c : Prop} [Decidable c] {a b : Sem α} {Q : α → Shared → Prop} (hc : c) (h : wpAny M A a Q E s) : wpAny M A (if c then a else b) Q E s := by
  rw [if_pos hc]; exact h

theorem okb {id : String} {args : Args} (h : (!Builtin.Bytes.decodersThatHold.contains id) = true) : okCode (.builtin id args) = true := h
theorem ba_typeIs {S : Addr} {b : Array UInt8} (hS : s.heap.get? S = some (baObj b)) : s.TypeIs (.ref S) "bytearray" := ⟨_, hS, rfl⟩

theorem ownSlot_ba {S : Addr} {b : Array UInt8} {Q : Bool → Shared → Prop} (hS : s.heap.get? S = some (baObj b)) {nm : String} {id : String} (hl : typeLookup (.type "bytearray") (Str.ofString nm) = pure (some (.builtin id)))
    (h1 : (!id.endsWith ("." ++ nm)) = false) (h2 : id.dropRight (nm.length + 1) = "bytearray") (h : Q true s) :
    wpAny M A (Builtin.Bytes.slotIsOwn (.ref S) nm) Q E s := by
  unfold Builtin.Bytes.slotIsOwn
  refine wpAny_bind (wpAny_specialOf (ba_typeIs hS) hl ?_)
  dsimp only
  refine any_if_false h1 ?_
  rw [h2]
  exact wpAny_isInstance (ba_typeIs hS) sub_ba h
theorem ownRelease_ba {S : Addr} {b : Array UInt8} {Q : Bool → Shared → Prop} (hS : s.heap.get? S = some (baObj b)) (h : Q false s) :
    wpAny M A (Builtin.Bytes.ownRelease (.ref S)) Q E s := by
  unfold Builtin.Bytes.ownRelease
  exact wpAny_bind (ownSlot_ba hS look_ba_release (by decide +kernel) (by decide +kernel) (wpAny_pure h))

theorem write_ba {S : Addr} {b : Array UInt8} {f : Array UInt8 → Array UInt8} {Q : Unit → Shared → Prop} (hS : s.heap.get? S = some (baObj b)) (hz : (f b).size ≤ sizeLine)
    (h : ∀ h', h'.get? S = some (baObj (f b)) → Heap.SameBut S s.heap h' → Q () { s with heap := h' }) : wpAny M A (Builtin.Bytes.write (.ref S) f) Q E s := by
  show wpAny M A (updateBytearray S f) Q E s
  unfold updateBytearray
  refine wpAny_bind (wpAny_load hS ?_)
  show wpAny M A (update S (Obj.mapBytearray f) >>= fun _ => lookBehind S) Q E s
  have hg : (s.heap.update S (Obj.mapBytearray f)).get? S = some (baObj (f b)) := Heap.get?_update_self (Obj.mapBytearray f) hS rfl
  refine wpAny_bind (wpAny_update hS (wpAny_lookBehind hg ?_ (h _ hg (Heap.SameBut.update ..))))
  show (if (f b).size > sizeLine then some "bytearray:memory" else none) = none
  rw [if_neg (Nat.not_lt.mpr hz)]
end
section
variable {prog : Program} {w : World} {A : Around} {E : Value → Shared → Prop} {s : Shared}
theorem size_repl (n : Nat) : (Array.replicate n (0 : UInt8)).size = n := Array.size_replicate

theorem init_ba {S : Addr} {n : Int} {t : Tok} {Q : Fin → Shared → Prop} (hg : A.guards = some []) (hS : s.heap.get? S = some (baObj #[])) (h0 : 0 ≤ n) (hn : n ≤ 16777216)
    (h : ∀ h' tk, h'.get? S = some (baObj (Array.replicate n.toNat 0)) → Heap.SameBut S s.heap h' → Q (.done (.ret .none)) { s with heap := h', toks := tk }) :
    wpC (model prog w) A (Builtin.«bytearray.__init__» ⟨[.ref S, .int n t], []⟩) Q E s := by
  unfold Builtin.«bytearray.__init__»
  dsimp only
  refine wpC_seq (ownRelease_ba hS ?_)
  refine wpC_if_false rfl ?_
  refine wpC_bind (wpC_of_eq (ba_bind _) ?_)
  dsimp only
  refine wpC_bind (wpC_of_eq (a := ()) rfl ?_)
  refine wpC_bind (wpC_of_eq (a := ()) rfl ?_)
  refine wpC_bind ?_
  show wpC _ _ (Builtin.Bytes.exported (.ref S) >>= _) _ _ _
  refine wpC_bind (wpC_exported hg ?_)
  show wpC _ _ (Builtin.Bytes.exportsOf (.ref S) >>= _) _ _ _
  refine wpC_seq ?_
  show wpAny _ _ (load S >>= _) _ _ _
  refine wpAny_bind (wpAny_load hS ?_)
  show wpAny _ _ (pure 0) _ _ _
  refine wpAny_pure ?_
  refine wpC_pure ?_
  refine wpC_if_false rfl ?_
  refine wpC_seq (write_ba hS (Nat.zero_le _) fun h₁ hS₁ hs₁ => ?_)
  refine wpC_of_any ?_
  refine wpAny_bind (wpAny_of_eq (a := none) rfl ?_)
  refine any_if_false rfl ?_
  refine wpAny_bind (wpAny_of_eq (a := ()) rfl ?_)
  refine wpAny_bind (wpAny_specialOf (typeIs_int _ _ _) look_int_index ?_)
  refine any_if_true rfl ?_
  refine wpAny_bind (wpAny_attempt (wpAny_of_eq (a := n) rfl ?_))
  dsimp only
  refine any_if_false ?_ ?_
  · simp [Builtin.Bytes.fitsIndex]; omega
  refine any_if_neg (by omega) ?_
  refine any_if_false (by simp; omega) ?_
  refine any_if_false ?_ ?_
  · unfold Builtin.Bytes.tooLong
    rw [sizeLine_eq]
    exact decide_eq_false (by omega)
  refine wpAny_bind (wpAny_rule ?_)
  by_cases hp : n > 0
  · refine any_if_pos hp ?_
    refine wpAny_bind (write_ba hS₁ (by rw [size_repl, sizeLine_eq]; omega) fun h₂ hS₂ hs₂ => ?_)
    exact wpAny_pure (h h₂ s.toks hS₂ (hs₁.trans hs₂))
  · refine any_if_neg hp ?_
    have e : n = 0 := by omega
    subst e
    exact wpAny_pure (h h₁ s.toks hS₁ hs₁)

/-- bytearray(n) in the clean logic -/
theorem call_bytearray {n : Int} {t : Tok} {Q : Value → Shared → Prop} (hg : A.guards = some []) (h0 : 0 ≤ n) (hn : n ≤ 16777216)
    (h : ∀ h' tk, h'.get? s.heap.objs.size = some (baObj (Array.replicate n.toNat 0)) → (∀ b o, s.heap.get? b = some o → h'.get? b = some o) → h'.objs.size = s.heap.objs.size + 1 →
      Q (.ref s.heap.objs.size) { s with heap := h', toks := tk }) :
    wpC (model prog w) A (call (.type "bytearray") [.int n t]) Q E s := by
  refine wpC_call (codeC_of_tree ?_)
  show wpC _ _ (callAny (.type "bytearray") _) _ _ _
  refine wpC_pure ⟨Code.quiet_builtin _ (by decide +kernel), codeC_builtin F.entry_type_call (okb (by decide +kernel)) ?_⟩
  rw [Around.under_plain (weight_type_call_type "bytearray" _ []) (units_type_call_type "bytearray" _ [])]
  show wpC _ _ (Builtin.«type.__call__» ⟨[.type "bytearray", .int n t], []⟩) _ _ s
  rw [typeCall_tree]
  refine wpC_seq (wpAny_holding (wpAny_call (codeAny_mono (code_ba_new (Q₁ := fun obj s₁ => obj = .ref s.heap.objs.size ∧ s₁ = { s with heap := s.heap.push (baObj #[]) }) (E := fun _ _ => False) _ ⟨rfl, rfl⟩) fun r s₁ hr => ?_)))
  cases r with
  | error e => exact hr.elim
  | ok fl =>
    cases fl with
    | ret obj =>
      obtain ⟨rfl, rfl⟩ := hr
      have hS : (s.heap.push (baObj #[])).get? s.heap.objs.size = some (baObj #[]) := Heap.get?_push_size _ rfl
      refine wpC_seq (wpAny_isInstance (ba_typeIs (s := { s with heap := s.heap.push (baObj #[]) }) hS) sub_ba ?_)
      refine wpC_if_false rfl ?_
      refine wpC_bind (wpC_holding ?_)
      unfold callSpecial?
      refine wpC_seq (wpAny_specialOf (ba_typeIs (s := { s with heap := s.heap.push (baObj #[]) }) hS) slot_ba_init.lookup ?_)
      dsimp only
      refine wpC_holding ?_
      refine wpC_bind (wpC_of_eq (slot_ba_init.bind _) ?_)
      refine wpC_bind ?_
      refine wpC_call (codeC_call_builtin slot_ba_init.plain entry_ba_init (okb (by decide +kernel)) ?_)
      refine slot_ba_init.check _ _ _ _ _ _ _ _ (ba_typeIs (s := { s with heap := s.heap.push (baObj #[]) }) hS) (args_ba_init _ _) ?_
      refine init_ba hg hS h0 hn fun h' tk hS' hs' => ?_
      dsimp only
      refine wpC_pure ?_
      dsimp only
      refine wpC_if_false rfl ?_
      refine wpC_pure ?_
      refine h h' tk hS' (fun b o e => hs'.extBut b o (Nat.ne_of_lt (Heap.lt_size e)) (Heap.get?_push_of_some _ e)) ?_
      rw [hs'.1]; exact Heap.size_push _ _
    | _ => exact hr.elim
end
end
/-! Byt3 -/
section
set_option maxRecDepth 100000
set_option maxHeartbeats 4000000
section
variable {prog : Program} {w : World} {A : Around} {E : Value → Shared → Prop} {s : Shared}
theorem fits_idx {k : Int} (h0 : 0 ≤ k) (h1 : k ≤ 16777216) : Builtin.Bytes.fitsIndex k = true := by
  simp [Builtin.Bytes.fitsIndex]; omega
theorem seqIndex_in {k : Int} {n : Nat} (h0 : 0 ≤ k) (h1 : k < n) : seqIndex? k n = some k.toNat := by
  unfold seqIndex?
  simp only []
  split <;> simp_all <;> omega

theorem setItem_ba {S : Addr} {b : Array UInt8} {k v : Int} {t u : Tok} {Q : Unit → Shared → Prop} (hS : s.heap.get? S = some (baObj b)) (h0 : 0 ≤ k) (h1 : k < b.size) (v0 : 0 ≤ v) (v1 : v < 256) (hz : b.size ≤ 16777216)
    (hQ : ∀ h', h'.get? S = some (baObj (b.setIfInBounds k.toNat v.toNat.toUInt8)) → Heap.SameBut S s.heap h' → Q () { s with heap := h' }) :
    wpAny (model prog w) A (setItem (.ref S) (.int k t) (.int v u)) Q E s := by
  have hT := ba_typeIs (s := s) hS
  unfold setItem
  refine wpAny_holding (wpAny_bind (wpAny_sequenceKey hT (by decide) ?_))
  refine wpAny_bind (wpAny_callSpecial?_slot (name := Str.ofString "__setitem__") hT slot_ba_setitem
    (wpAny_call_entry slot_ba_setitem hT entry_ba_setitem ?_ (args_ba_setitem _ _ _)))
  unfold Builtin.«bytearray.__setitem__»
  refine any_if_false rfl ?_
  try dsimp only
  refine wpAny_bind ?_
  unfold Builtin.Bytes.subscript?
  refine wpAny_bind (wpAny_specialOf (typeIs_int _ _ _) look_int_index ?_)
  refine any_if_false rfl ?_
  refine wpAny_bind (wpAny_of_eq (a := k) rfl ?_)
  refine any_if_false (by rw [fits_idx h0 (by omega)]; rfl) ?_
  refine wpAny_pure ?_
  try dsimp only
  refine wpAny_bind ?_
  unfold Builtin.Bytes.byteValue
  refine wpAny_bind (wpAny_of_eq (a := v) rfl ?_)
  refine any_if_false (by simp; omega) ?_
  refine wpAny_pure ?_
  refine wpAny_bind ?_
  unfold Builtin.Bytes.payload Builtin.Bytes.payload?
  refine wpAny_bind (wpAny_bind (wpAny_load hS ?_))
  show wpAny _ _ (pure (some b)) _ _ _
  refine wpAny_pure ?_
  try dsimp only
  refine wpAny_pure ?_
  rw [seqIndex_in h0 h1]
  try dsimp only
  refine wpAny_bind (write_ba hS (by rw [Array.size_setIfInBounds, sizeLine_eq]; omega) fun h' hS' hs' => ?_)
  exact wpAny_pure ⟨_, rfl, wpAny_pure (hQ h' hS' hs')⟩

theorem no_ba_bytes : typeLookup (.type "bytearray") "__bytes__" = pure none := by rw [typeLookup_type, builtinLookup_eq_fast]; kernel_rfl
theorem no_ba_index : typeLookup (.type "bytearray") "__index__" = pure none := by rw [typeLookup_type, builtinLookup_eq_fast]; kernel_rfl

theorem buffer_ba {S : Addr} {b : Array UInt8} {id : String} {Q : Option (Array UInt8) → Shared → Prop} (hS : s.heap.get? S = some (baObj b)) (h : Q (some b) s) :
    wpAny (model prog w) A (Builtin.Bytes.buffer? id (.ref S) true) Q E s := by
  have hT := ba_typeIs (s := s) hS
  unfold Builtin.Bytes.buffer?
  refine wpAny_bind (wpAny_specialOf hT look_ba_buffer ?_)
  try dsimp only
  refine wpAny_bind (ownSlot_ba hS look_ba_buffer (by decide +kernel) (by decide +kernel) ?_)
  refine any_if_false rfl ?_
  refine wpAny_bind (wpAny_specialOf hT look_ba_buffer ?_)
  try dsimp only
  refine wpAny_bind (ownRelease_ba hS ?_)
  refine any_if_false rfl ?_
  refine wpAny_bind ?_
  unfold Builtin.Bytes.payload Builtin.Bytes.payload?
  refine wpAny_bind (wpAny_bind (wpAny_load hS ?_))
  show wpAny _ _ (pure (some b)) _ _ _
  refine wpAny_pure ?_
  try dsimp only
  exact wpAny_pure (wpAny_pure h)

theorem new_bytes_ba {S : Addr} {b : Array UInt8} {Q : Value → Shared → Prop} (hS : s.heap.get? S = some (baObj b)) (hz : b.size ≤ 16777216)
    (hQ : ∀ t k, Q (.bytes b t) { s with toks := k }) :
    codeAny (model prog w) A (.call (.builtin "bytes.__new__") ⟨[.type "bytes", .ref S], []⟩) (wants Q E) s := by
  refine codeAny_of_tree ?_
  show wpAny _ A.in1 (do checkBuiltinCall "bytes.__new__" ⟨[.type "bytes", .ref S], []⟩; again (.builtin "bytes.__new__" ⟨[.type "bytes", .ref S], []⟩)) _ _ s
  refine wpAny_bind (wpAny_of_eq (F.bm_newCall _) (wpAny_pure ⟨plainId_quiet F.bm_plain _, codeAny_builtin F.bm_entry ?_⟩))
  rw [Around.under_plainId F.bm_plain _]
  have hT := ba_typeIs (s := s) hS
  unfold Builtin.«bytes.__new__»
  refine wpAny_bind (wpAny_of_eq (a := true) rfl ?_)
  refine any_if_false rfl ?_
  refine wpAny_bind (wpAny_of_eq F.bm_sub ?_)
  refine any_if_false rfl ?_
  refine wpAny_bind (wpAny_of_eq (F.bm_bind _) ?_)
  refine wpAny_bind (wpAny_of_eq (a := ()) rfl ?_)
  refine wpAny_bind (wpAny_of_eq (a := ()) rfl ?_)
  refine any_if_false rfl ?_
  refine wpAny_bind (wpAny_specialOf hT no_ba_bytes ?_)
  refine wpAny_bind (wpAny_bind ?_)
  show wpAny _ _ (load S >>= _) _ _ _
  refine wpAny_bind (wpAny_load hS ?_)
  refine wpAny_pure (wpAny_pure ?_)
  refine any_if_false rfl ?_
  refine wpAny_bind (wpAny_specialOf hT no_ba_index ?_)
  refine any_if_true rfl ?_
  first
    | show wpAny _ _ (Builtin.Bytes.buffer? "bytes.__new__" (.ref S) true >>= _) _ _ _
    | (refine wpAny_bind ?_; show wpAny _ _ (Builtin.Bytes.buffer? "bytes.__new__" (.ref S) true >>= _) _ _ _)
  refine wpAny_bind (buffer_ba hS ?_)
  try dsimp only
  refine wpAny_bind (wpAny_rule ?_)
  refine wpAny_bind (wpAny_mkBytes ?_ (by rw [sizeLine_eq]; exact hz))
  exact wpAny_pure (hQ _ _)

/-- bytes(bytearray) -/
theorem call_bytes_ba {S : Addr} {b : Array UInt8} {Q : Value → Shared → Prop} (hS : s.heap.get? S = some (baObj b)) (hz : b.size ≤ 16777216)
    (hQ : ∀ t k, Q (.bytes b t) { s with toks := k }) : wpAny (model prog w) A (call (.type "bytes") [.ref S]) Q E s := by
  refine callType_codes (Q₁ := fun obj s₁ => s₁.TypeIs obj "bytes" ∧ Q obj s₁) F.bm_called (F.bm_typeCall _) F.entry_object_init
    (new_bytes_ba hS hz fun t k => ⟨PySem.W.typeIs_bytes _ _ _, hQ t k⟩) fun obj s₁ h₁ => ?_
  exact ⟨h₁.1, F.args_object_init_2 obj _, object_init_meets F.bm_called.init.lookup F.bm_called.made (by decide) prog w A.in1 _ s₁ ⟨h₁.1, rfl, h₁.2⟩⟩
end
end
/-! Byt4 -/
section
set_option maxRecDepth 100000
set_option maxHeartbeats 4000000
theorem slot_bj : Slot "bytes" "join" "bytes.join" :=
  .of (owner := "bytes") (n := "join") (by rw [typeLookup_type, builtinLookup_eq_fast]; kernel_rfl) (by decide +kernel) (by decide +kernel) (by decide +kernel)
    (by first | exact .inl (by decide +kernel) | exact .inr (by decide +kernel)) (by rw [isSubtype_type]; kernel_rfl)
theorem type_bj : typeOf (.builtin "bytes.join") = pure (.type "method_descriptor") := by show builtinType _ = _; rw [builtinType_eq_fast]; kernel_rfl
theorem entry_bj : entryFor table "bytes.join" = some Builtin.«bytes.join» := by first | exact entryFor_of_fast (by kernel_rfl) | exact entryFor_of_tree (by kernel_rfl)
theorem args_bj (a b : Value) : argsOk "bytes.join" ⟨[a, b], []⟩ := by unfold argsOk; kernel_rfl
theorem ga_bytes : typeLookup (.type "bytes") "__getattribute__" = pure (some (.builtin "bytes.__getattribute__")) := by rw [typeLookup_type, builtinLookup_eq_fast]; kernel_rfl
theorem no_getattr_bytes : typeLookup (.type "bytes") "__getattr__" = pure none := by rw [typeLookup_type, builtinLookup_eq_fast]; kernel_rfl
theorem canon_ga_bytes : (Manifest.canonical "bytes.__getattribute__" != "object.__getattribute__") = false := by decide +kernel
section
variable {prog : Program} {w : World} {A : Around} {E : Value → Shared → Prop} {s : Shared}
theorem method_bj {b : Array UInt8} {t : Tok} {pl : Sem Bool} {Q : Value × List Value → Shared → Prop} (h : Q (.builtin "bytes.join", [.bytes b t]) s) :
    wpAny (model prog w) A (getMethod (.bytes b t) (PySem.Str.ofString "join") pl) Q E s :=
  getMethod_value (T := "bytes") (name := PySem.Str.ofString "join") (ga := "bytes.__getattribute__") (id := "bytes.join") (PySem.W.typeIs_bytes s b t) (by intro _ x; cases x) ga_bytes canon_ga_bytes no_getattr_bytes slot_bj.lookup type_bj h
theorem takeQuiet_eq {id : String} {b : Array UInt8} {t : Tok} : Builtin.Bytes.takeBufferQuiet? id (.bytes b t) 0 = pure (some (b, none)) := by
  have e : Builtin.Bytes.takeBuffer? id (.bytes b t) 0 = pure (some (b, none)) := by
    unfold Builtin.Bytes.takeBuffer?
    rw [KBy.special_eq KBy.look_buffer, KBy.own_buffer]
    show (Builtin.Bytes.buffer? id (.bytes b t) false >>= fun x => pure (x.map fun y => (y, none))) = _
    rw [KBy.buffer_eq]
    rfl
  unfold Builtin.Bytes.takeBufferQuiet?
  rw [e]
  rfl

theorem joinLetGo_vals {M : Model} {keep : List Value} {Q : Unit → Shared → Prop} (h : Q () s) : ∀ ps : List (Array UInt8 × Tok), wpAny M A (Builtin.Bytes.joinLetGo (ps.map fun p => (Value.bytes p.1 p.2, none)) keep) Q E s
  | [] => wpAny_pure h
  | p :: r => by
    show wpAny M A (letGo [.bytes p.1 p.2] _ >>= fun _ => Builtin.Bytes.joinLetGo (r.map fun p => (Value.bytes p.1 p.2, none)) keep) Q E s
    exact wpAny_bind (wpAny_letGo (joinLetGo_vals h r))

def bvals (ps : List (Array UInt8 × Tok)) : List Value := ps.map fun p => .bytes p.1 p.2
theorem bvals_get {ps : List (Array UInt8 × Tok)} {i : Nat} {p : Array UInt8 × Tok} (h : ps[i]? = some p) : (bvals ps).toArray.getD i .none = .bytes p.1 p.2 := by
  have : (bvals ps)[i]? = some (.bytes p.1 p.2) := by unfold bvals; rw [List.getElem?_map, h]; rfl
  rw [Array.getD_eq_getD_getElem?, List.getElem?_toArray, this]; rfl

theorem one_or_more {M : Model} {ps : List (Array UInt8 × Tok)} {f : Value → Sem Fin} {g : Array Value → Sem Fin} {Q : Fin → Shared → Prop}
    (h1 : ∀ p, ps = [p] → wpAny M A (f (.bytes p.1 p.2)) Q E s) (h2 : wpAny M A (g (bvals ps).toArray) Q E s) :
    wpAny M A (Builtin.Bytes.joinM.match_1 (fun _ => Sem Fin) (bvals ps).toArray f g) Q E s := by
  match ps, h1, h2 with
  | [], _, h2 => exact h2
  | [p], h1, _ => exact h1 p rfl
  | p :: q :: r, _, h2 => exact h2
theorem join_tree {t : Tok} {l : Addr} {ps : List (Array UInt8 × Tok)} {Q : Fin → Shared → Prop} (hl : s.heap.IsList l (bvals ps).toArray)
    (hz : ((ps.map (·.1)).toArray.foldl (fun n b => n + b.size) 0) ≤ 16777216) (hj : (Builtin.Bytes.joined #[] (ps.map (·.1))).size ≤ 16777216)
    (hQ : ∀ t' k, Q (.done (.ret (.bytes (Builtin.Bytes.joined #[] (ps.map (·.1))) t'))) { s with toks := k }) :
    wpAny (model prog w) A (Builtin.«bytes.join» ⟨[.bytes #[] t, .ref l], []⟩) Q E s := by
  obtain ⟨o, ho, hc, n, hd⟩ := id hl
  show wpAny _ _ (_ >>= _) _ _ _
  refine wpAny_bind (wpAny_of_eq (a := (.bytes #[] t, .ref l)) (by kernel_rfl) ?_)
  show wpAny _ _ (Builtin.Bytes.joinItems (.ref l) >>= _) _ _ _
  refine wpAny_bind ?_
  unfold Builtin.Bytes.joinItems
  refine wpAny_bind (wpAny_typeOf hl.typeIs ?_)
  refine any_if_true rfl ?_
  refine wpAny_pure ?_
  show wpAny _ _ (seqItems? (.ref l) >>= _) _ _ _
  refine wpAny_bind (wpAny_seqItems ho hd ?_)
  show wpAny _ _ (if true = true then _ else _) _ _ _
  refine any_if_true rfl ?_
  refine one_or_more (fun p e => ?_) ?_
  · subst e
    refine wpAny_bind (wpAny_typeOf (PySem.W.typeIs_bytes _ _ _) ?_)
    refine any_if_true rfl ?_
    refine wpAny_bind (wpAny_rule (wpAny_pure ?_))
    have e : Builtin.Bytes.joined #[] ([p].map (·.1)) = p.1 := by simp [Builtin.Bytes.joined]
    have := hQ p.2 s.toks
    rw [e] at this
    exact this
  refine wpAny_bind ?_
  rw [Std.Legacy.Range.forIn_eq_forIn_range']
  refine wpAny_forIn_list _ (fun rest st s' => s' = s ∧ ∃ i, rest = List.range' i (ps.length - i) ∧ i ≤ ps.length ∧ st.1 = ((ps.take i).map (·.1)).toArray ∧ st.2 = (ps.take i).map fun p => (Value.bytes p.1 p.2, none)) _ ?_ ?_ _ _ ⟨rfl, 0, ?_, Nat.zero_le _, rfl, rfl⟩
  · rintro x rest ⟨parts, taken⟩ s' ⟨rfl, i, hr, hi, hp, ht⟩
    have hlt : i < ps.length := by
      rcases Nat.lt_or_ge i ps.length with h | h
      · exact h
      · rw [Nat.sub_eq_zero_of_le h] at hr; cases hr
    have hsub : ps.length - i = (ps.length - (i + 1)) + 1 := by omega
    rw [hsub, List.range'_succ] at hr
    injection hr with hx hr
    subst hx
    have hpx : ps[x]? = some ps[x] := List.getElem?_eq_getElem hlt
    show wpAny _ _ (seqItems? (.ref l) >>= _) _ _ _
    refine wpAny_bind (wpAny_seqItems ho hd ?_)
    have hgx := bvals_get hpx
    have e1 : ps.take (x + 1) = ps.take x ++ [ps[x]] := by rw [List.take_add_one, hpx]; rfl
    have hnh : (Builtin.Bytes.Kind.bytes == Builtin.Bytes.Kind.bytearray || taken.any fun x => x.fst.onHeap) = false := by
      show (false || taken.any fun x => x.fst.onHeap) = false
      rw [Bool.false_or]
      replace ht : taken = (ps.take x).map fun p => (Value.bytes p.1 p.2, none) := ht
      rw [ht, List.any_map, List.any_eq_false]
      intro p _; simp [Value.onHeap]
    show wpAny _ _ (if (Builtin.Bytes.Kind.bytes == Builtin.Bytes.Kind.bytearray || taken.any fun x => x.fst.onHeap) = true then _ else _) _ _ _
    refine any_if_false hnh ?_
    refine wpAny_bind (wpAny_holding ?_)
    rw [hgx]
    refine wpAny_of_eq takeQuiet_eq ?_
    show wpAny _ _ (seqItems? (.ref l) >>= _) _ _ _
    refine wpAny_bind (wpAny_seqItems ho hd ?_)
    refine any_if_false (by simp) ?_
    refine wpAny_pure ⟨rfl, x + 1, hr, hlt, ?_, ?_⟩
    · show parts.push ps[x].1 = ((ps.take (x + 1)).map (·.1)).toArray
      rw [e1, List.map_append, show parts = _ from hp, List.push_toArray]; rfl
    · show taken ++ [(Value.bytes ps[x].1 ps[x].2, none)] = (ps.take (x + 1)).map fun p => (Value.bytes p.1 p.2, none)
      rw [e1, List.map_append, show taken = _ from ht]; rfl
  · rintro ⟨parts, taken⟩ s' ⟨rfl, i, hr, hi, hp, ht⟩
    have hin : i = ps.length := by
      rcases Nat.lt_or_ge i ps.length with h | h
      · have hsub : ps.length - i = (ps.length - (i + 1)) + 1 := by omega
        rw [hsub, List.range'_succ] at hr; cases hr
      · omega
    subst hin
    rw [List.take_length] at hp ht
    replace hp : parts = (ps.map (·.1)).toArray := hp
    replace ht : taken = ps.map fun p => (Value.bytes p.1 p.2, none) := ht
    subst hp ht
    refine wpAny_bind (wpAny_of_eq (a := (#[] : Array UInt8)) rfl ?_)
    refine any_if_false ?_ ?_
    · refine KBy.tooLong_not ?_
      have : (#[] : Array UInt8).size * ((ps.map (·.1)).toArray.size - 1) = 0 := by simp
      show Array.foldl (fun x1 x2 => x1 + x2.size) ((#[] : Array UInt8).size * ((ps.map (·.1)).toArray.size - 1)) (ps.map (·.1)).toArray ≤ _
      rw [this]; exact hz
    show wpAny _ _ (mkBytes _ >>= _) _ _ _
    refine wpAny_bind (wpAny_mkBytes ?_ (by rw [sizeLine_eq]; exact hj))
    refine wpAny_bind (wpAny_holding (wpAny_point ?_))
    refine wpAny_bind (joinLetGo_vals ?_ ps)
    exact wpAny_pure (hQ _ _)
  · simp [bvals, Std.Legacy.Range.size]

theorem call_join {t : Tok} {l : Addr} {ps : List (Array UInt8 × Tok)} {Q : Value → Shared → Prop} (hl : s.heap.IsList l (bvals ps).toArray)
    (hz : ((ps.map (·.1)).toArray.foldl (fun n b => n + b.size) 0) ≤ 16777216) (hj : (Builtin.Bytes.joined #[] (ps.map (·.1))).size ≤ 16777216)
    (hQ : ∀ t' k, Q (.bytes (Builtin.Bytes.joined #[] (ps.map (·.1))) t') { s with toks := k }) :
    wpAny (model prog w) A (call (.builtin "bytes.join") [.bytes #[] t, .ref l]) Q E s :=
  wpAny_call_entry slot_bj (PySem.W.typeIs_bytes s _ _) entry_bj (join_tree hl hz hj fun t' k => ⟨_, rfl, hQ t' k⟩) (args_bj _ _)
end
end
/-! Enum -/
section
set_option maxRecDepth 100000
set_option maxHeartbeats 4000000
section
variable {prog : Program} {w : World} {A : Around} {E : Value → Shared → Prop} {s : Shared}

theorem stop_here {I : Addr} {o : Obj} {vs : Array Value} {P : Fin → Shared → Prop} (hh : A.handled = none) (ho : s.heap.get? I = some o) (hd : o.data = .fields vs) (h0 : 0 < vs.size)
    (hE : ∀ h' e, Heap.ExtBut I s.heap h' → (∃ o, h'.get? e = some o ∧ o.cls = .type "StopIteration") → E (.ref e) { s with heap := h' }) :
    wpAny (model prog w) A (do setField (.ref I) 0 .none; Builtin.SmallTypes.stopIteration) P E s := by
  refine wpAny_bind (wpAny_setField ho hd h0 ?_)
  show wpAny _ _ (newExc (.type "StopIteration") [] >>= _) _ _ _
  refine wpAny_bind ?_
  simp only [newExc, newTuple]
  refine wpAny_bind (wpAny_newObj_type ?_ (by size_fits))
  refine wpAny_bind (m := firstArgMember _ _) (wpAny_of_eq (a := Value.none) (by first | rfl | (simp only [firstArgMember]; rfl)) ?_)
  refine wpAny_newObj_type ?_ (by size_fits)
  simp only [raiseNew]
  refine wpAny_bind (wpAny_handled ?_)
  rw [hh]
  refine wpAny_bind (wpAny_pure (wpAny_throw ?_))
  exact hE _ _ (((Heap.SameBut.update ..).extBut.push _).push _) ⟨_, Heap.get?_push_size _ rfl, rfl⟩

theorem nextOf_bytes_item {it : Addr} {b : Array UInt8} {t : Tok} {i : Nat} {c : UInt8} {Q : Value → Shared → Prop} (hit : KBw.IsBytesIter s.heap it b t i) (hx : b[i]? = some c)
    (hQ : ∀ h', KBw.IsBytesIter h' it b t (i + 1) → Heap.SameBut it s.heap h' → Q (.int (c.toNat : Int) s.toks) { s with heap := h', toks := s.toks + 1 }) :
    wpAny (model prog w) A (Builtin.SmallTypes.nextOf (.ref it)) Q E s := by
  obtain ⟨o, ho, hc, hd⟩ := id hit
  unfold Builtin.SmallTypes.nextOf
  refine wpAny_bind (wpAny_callSpecial?_slot (name := PySem.Str.ofString "__next__") (KBw.iter_typeIs hit) KBw.slot_next
    (wpAny_call_entry KBw.slot_next (KBw.iter_typeIs hit) KBw.entry_next ?_ (KBw.args_next _)))
  show wpAny _ _ (field (.ref it) 0 >>= _) _ _ s
  refine wpAny_bind (wpAny_field ho hd (x := .bytes b t) rfl ?_)
  refine any_if_false rfl ?_
  show wpAny _ _ (field (.ref it) 1 >>= _) _ _ s
  refine wpAny_bind (wpAny_field ho hd (x := .int i 0) rfl ?_)
  refine wpAny_bind (wpAny_of_eq (a := b) rfl ?_)
  simp only [Int.toNat_natCast, hx]
  refine wpAny_bind (wpAny_setField ho hd (by simp) (wpAny_bind (wpAny_mkInt (wpAny_pure ⟨_, rfl, wpAny_pure (hQ _ ?_ (Heap.SameBut.update ..))⟩))))
  exact ⟨_, Heap.get?_update_self _ ho (Obj.isFreed_of_fields (Obj.data_mapFields hd _)), (Obj.cls_mapFields ..).trans hc, by
    rw [Obj.data_mapFields hd]; simp [rawInt]⟩
theorem nextOf_bytes_end {it : Addr} {b : Array UInt8} {t : Tok} {i : Nat} {Q : Value → Shared → Prop} (hh : A.handled = none) (hit : KBw.IsBytesIter s.heap it b t i) (hx : b[i]? = none)
    (hE : ∀ h' e, Heap.ExtBut it s.heap h' → (∃ o, h'.get? e = some o ∧ o.cls = .type "StopIteration") → E (.ref e) { s with heap := h' }) :
    wpAny (model prog w) A (Builtin.SmallTypes.nextOf (.ref it)) Q E s := by
  obtain ⟨o, ho, hc, hd⟩ := id hit
  unfold Builtin.SmallTypes.nextOf
  refine wpAny_bind (wpAny_callSpecial?_slot (name := PySem.Str.ofString "__next__") (KBw.iter_typeIs hit) KBw.slot_next
    (wpAny_call_entry KBw.slot_next (KBw.iter_typeIs hit) KBw.entry_next ?_ (KBw.args_next _)))
  show wpAny _ _ (field (.ref it) 0 >>= _) _ _ s
  refine wpAny_bind (wpAny_field ho hd (x := .bytes b t) rfl ?_)
  refine any_if_false rfl ?_
  show wpAny _ _ (field (.ref it) 1 >>= _) _ _ s
  refine wpAny_bind (wpAny_field ho hd (x := .int i 0) rfl ?_)
  refine wpAny_bind (wpAny_of_eq (a := b) rfl ?_)
  simp only [Int.toNat_natCast, hx]
  refine wpAny_bind (wpAny_rule ?_)
  exact stop_here (A := A.in1) hh ho hd (by simp) hE

theorem nextOf_tuple_item {it l : Addr} {i : Nat} {items : Array Value} {x : Value} {Q : Value → Shared → Prop} (hit : s.heap.IsTupleIter it l i) (hl : s.heap.IsTuple l items) (hx : items[i]? = some x)
    (hQ : ∀ h', h'.IsTupleIter it l (i + 1) → Heap.SameBut it s.heap h' → Q x { s with heap := h' }) :
    wpAny (model prog w) A (Builtin.SmallTypes.nextOf (.ref it)) Q E s := by
  obtain ⟨o, ho, hc, hd⟩ := id hit
  obtain ⟨ol, hol, _, nl, hdl⟩ := hl
  unfold Builtin.SmallTypes.nextOf
  refine wpAny_bind (wpAny_callSpecial?_slot (name := PySem.Str.ofString "__next__") hit.typeIs F.slot_tuple_iterator_next
    (wpAny_call_entry F.slot_tuple_iterator_next hit.typeIs F.entry_tuple_iterator_next ?_ (F.args_tuple_iterator_next_1 _)))
  show wpAny _ _ (field (.ref it) 0 >>= _) _ _ s
  refine wpAny_bind (wpAny_field ho hd (x := .ref l) rfl ?_)
  refine any_if_false rfl ?_
  show wpAny _ _ (field (.ref it) 1 >>= _) _ _ s
  refine wpAny_bind (wpAny_field ho hd (x := .int i 0) rfl ?_)
  show wpAny _ _ (seqItems? (.ref l) >>= _) _ _ s
  refine wpAny_bind (wpAny_seqItems hol hdl ?_)
  simp only [Int.toNat_natCast, hx]
  refine wpAny_bind (wpAny_setField ho hd (by simp) (wpAny_pure ⟨x, rfl, wpAny_pure (hQ _ ?_ (Heap.SameBut.update ..))⟩))
  exact ⟨_, Heap.get?_update_self _ ho (Obj.isFreed_of_fields (Obj.data_mapFields hd _)), (Obj.cls_mapFields ..).trans hc, by
    rw [Obj.data_mapFields hd]; simp [rawInt]⟩
theorem nextOf_tuple_end {it l : Addr} {i : Nat} {items : Array Value} {Q : Value → Shared → Prop} (hh : A.handled = none) (hit : s.heap.IsTupleIter it l i) (hl : s.heap.IsTuple l items) (hx : items[i]? = none)
    (hE : ∀ h' e, Heap.ExtBut it s.heap h' → (∃ o, h'.get? e = some o ∧ o.cls = .type "StopIteration") → E (.ref e) { s with heap := h' }) :
    wpAny (model prog w) A (Builtin.SmallTypes.nextOf (.ref it)) Q E s := by
  obtain ⟨o, ho, hc, hd⟩ := id hit
  obtain ⟨ol, hol, _, nl, hdl⟩ := hl
  unfold Builtin.SmallTypes.nextOf
  refine wpAny_bind (wpAny_callSpecial?_slot (name := PySem.Str.ofString "__next__") hit.typeIs F.slot_tuple_iterator_next
    (wpAny_call_entry F.slot_tuple_iterator_next hit.typeIs F.entry_tuple_iterator_next ?_ (F.args_tuple_iterator_next_1 _)))
  show wpAny _ _ (field (.ref it) 0 >>= _) _ _ s
  refine wpAny_bind (wpAny_field ho hd (x := .ref l) rfl ?_)
  refine any_if_false rfl ?_
  show wpAny _ _ (field (.ref it) 1 >>= _) _ _ s
  refine wpAny_bind (wpAny_field ho hd (x := .int i 0) rfl ?_)
  show wpAny _ _ (seqItems? (.ref l) >>= _) _ _ s
  refine wpAny_bind (wpAny_seqItems hol hdl ?_)
  simp only [Int.toNat_natCast, hx]
  refine wpAny_bind (wpAny_rule ?_)
  exact stop_here (A := A.in1) hh ho hd (by simp) hE
end

theorem Draws_bytes {prog : Program} {w : World} {A : Around} (hh : A.handled = none) (it : Addr) (b : Array UInt8) (t : Tok) :
    Draws prog w A it [it] b.size (fun i v => ∃ c u, b[i]? = some c ∧ v = .int (c.toNat : Int) u) (fun i h => KBw.IsBytesIter h it b t i) where
  live := fun _ _ st => let ⟨o, ho, _⟩ := st; ⟨o, ho⟩
  frame := fun _ _ _ st hk => let ⟨o, ho, r⟩ := st; ⟨o, hk it (by simp) o ho, r⟩
  item := fun i s Q E hi st hQ => nextOf_bytes_item st (c := b[i]) (by simp [hi]) fun h' hit' hs' => hQ _ h' (s.toks + 1) ⟨_, _, by simp [hi], rfl⟩ hit' hs'
  done := fun s Q E st hE => nextOf_bytes_end hh st (by simp) hE
theorem Draws_tuple {prog : Program} {w : World} {A : Around} (hh : A.handled = none) (it l : Addr) (hne : l ≠ it) (items : Array Value) :
    Draws prog w A it [it, l] items.size (fun i v => items[i]? = some v) (fun i h => h.IsTupleIter it l i ∧ h.IsTuple l items) where
  live := fun _ _ st => let ⟨o, ho, _⟩ := st.1; ⟨o, ho⟩
  frame := fun _ _ _ st hk => ⟨st.1.at fun o e => hk it (by simp) o e, st.2.at fun o e => hk l (by simp) o e⟩
  item := fun i s Q E hi st hQ => nextOf_tuple_item st.1 st.2 (x := items[i]) (by simp [hi]) fun h' hit' hs' => hQ _ h' s.toks (by simp [hi]) ⟨hit', st.2.extBut hs'.extBut hne⟩ hs'
  done := fun s Q E st hE => nextOf_tuple_end hh st.1 st.2 (by simp) hE

def enumObj (it : Addr) : Obj := { cls := .type "enumerate", data := .fields #[.none, .bool false, .ref it, rawInt 0, .none, .none] }
theorem meets_enum (x : Value) (o : Obj) (C : Heap → Prop)
    (hi : ∀ {prog : Program} {w : World} {A : Around} {E : Value → Shared → Prop} {h : Heap} {g : Array GenState} {d : Drawn} {tk : Nat} {os : OsState} {Q : Value → Shared → Prop}, C h →
      Q (.ref h.objs.size) ⟨h.push o, g, d, tk, os⟩ → wpAny (model prog w) A (pyIter x) Q E ⟨h, g, d, tk, os⟩) :
    Meets (Builtin.«enumerate.__new__» ⟨[.type "enumerate", x], []⟩) (fun _ R s => C s.heap ∧
      R (.ok (.ret (.ref (s.heap.push o).objs.size))) { s with heap := (s.heap.push o).push (enumObj s.heap.objs.size) }) :=
  .of_wp fun prog w A R s h => by
    obtain ⟨hp, g, d, tk, os⟩ := s; obtain ⟨hl, h⟩ := h
    have hsub := sub_enumerate
    wp_walk
    refine wpAny_stack_any fun st => wpAny_pure ?_
    split
    · rename_i c _ _ _ _ _
      cases (c == Value.type "enumerate")
      · wp_walk using hi hl
        exact ⟨_, rfl, h⟩
      · wp_walk using hi hl
        exact ⟨_, rfl, h⟩
    · wp_walk using hi hl
      exact ⟨_, rfl, h⟩
section
variable {prog : Program} {w : World} {A : Around} {E : Value → Shared → Prop} {s : Shared}
theorem call_enum {x : Value} {ob : Obj} {C : Heap → Prop} {Q : Value → Shared → Prop}
    (hi : ∀ {prog : Program} {w : World} {A : Around} {E : Value → Shared → Prop} {h : Heap} {g : Array GenState} {d : Drawn} {tk : Nat} {os : OsState} {Q : Value → Shared → Prop}, C h →
      Q (.ref h.objs.size) ⟨h.push ob, g, d, tk, os⟩ → wpAny (model prog w) A (pyIter x) Q E ⟨h, g, d, tk, os⟩)
    (hC : C s.heap) (hf : ob.isFreed = false)
    (h : ∀ h', h'.get? (s.heap.objs.size + 1) = some (enumObj s.heap.objs.size) → h'.get? s.heap.objs.size = some ob → h'.objs.size = s.heap.objs.size + 2 →
      (∀ b o, s.heap.get? b = some o → h'.get? b = some o) → Q (.ref (s.heap.objs.size + 1)) { s with heap := h' }) :
    wpAny (model prog w) A (call (.type "enumerate") [x]) Q E s := by
  refine callType_new F.called_enumerate (by decide) (F.typeCall_enumerate_1 _) (F.newCall_enumerate_1 _) (fun obj => F.args_object_init_2 obj _) F.entry_enumerate_new
    (meets_enum x ob C hi) ⟨hC, ?_⟩
  have hz : (s.heap.push ob).objs.size = s.heap.objs.size + 1 := Heap.size_push ..
  show _ ∧ _
  rw [hz]
  have he : ((s.heap.push ob).push (enumObj s.heap.objs.size)).get? (s.heap.objs.size + 1) = some (enumObj s.heap.objs.size) := by
    have := Heap.get?_push_size (s.heap.push ob) (o := enumObj s.heap.objs.size) rfl
    rw [hz] at this; exact this
  exact ⟨⟨_, he, rfl⟩, h _ he (Heap.get?_push_of_some _ (Heap.get?_push_size _ hf)) (by rw [Heap.size_push, hz]) fun b o y => Heap.get?_push_of_some _ (Heap.get?_push_of_some _ y)⟩

theorem call_enum_bytes {b : Array UInt8} {t : Tok} {Q : Value → Shared → Prop}
    (h : ∀ h', IsEnum h' (s.heap.objs.size + 1) s.heap.objs.size 0 .none → KBw.IsBytesIter h' s.heap.objs.size b t 0 → h'.objs.size = s.heap.objs.size + 2 →
      (∀ b o, s.heap.get? b = some o → h'.get? b = some o) → Q (.ref (s.heap.objs.size + 1)) { s with heap := h' }) :
    wpAny (model prog w) A (call (.type "enumerate") [.bytes b t]) Q E s :=
  call_enum (C := fun _ => True) (ob := { cls := .type "bytes_iterator", data := .fields #[.bytes b t, .int 0 0] }) (fun _ q => KBw.pyIter_bytes q) trivial rfl fun h' h1 h2 h3 h4 => h h' h1 ⟨_, h2, rfl, rfl⟩ h3 h4
theorem call_enum_tuple {l : Addr} {items : Array Value} {Q : Value → Shared → Prop} (hl : s.heap.IsTuple l items)
    (h : ∀ h', IsEnum h' (s.heap.objs.size + 1) s.heap.objs.size 0 .none → h'.IsTupleIter s.heap.objs.size l 0 → h'.objs.size = s.heap.objs.size + 2 →
      (∀ b o, s.heap.get? b = some o → h'.get? b = some o) → Q (.ref (s.heap.objs.size + 1)) { s with heap := h' }) :
    wpAny (model prog w) A (call (.type "enumerate") [.ref l]) Q E s :=
  call_enum (C := fun h => h.IsTuple l items) (ob := { cls := .type "tuple_iterator", data := .fields #[.ref l, .int 0 0] }) (fun c q => wpAny_pyIter_tuple c q) hl rfl fun h' h1 h2 h3 h4 => h h' h1 ⟨_, h2, rfl, rfl⟩ h3 h4
end
end
/-! Loops -/
section
set_option maxRecDepth 100000
set_option maxHeartbeats 4000000
abbrev NoE : Value → Shared → Prop := fun _ _ => False
abbrev Kp (h h' : Heap) : Prop := ∀ b o, h.get? b = some o → h'.get? b = some o
abbrev KpBut (wr : List Addr) (h h' : Heap) : Prop := ∀ b o, b ∉ wr → h.get? b = some o → h'.get? b = some o

theorem fr_kp {h₀ h h' : Heap} {L : Addr} {m : Str → Option Value} (F : Fr h₀ L h m) (k : Kp h h') : Fr h₀ L h' m :=
  ⟨F.ns.keeps k, fun b o e => k b o (F.keep b o e), F.above⟩
theorem news_kp {h₀ h h' : Heap} {L : Addr} {news : List (Addr × Obj)} (N : News h₀ L h news) (k : Kp h h') : News h₀ L h' news :=
  fun p hp => ⟨k _ _ (N p hp).1, (N p hp).2⟩
theorem news_sub {h₀ h : Heap} {L : Addr} {news news' : List (Addr × Obj)} (N : News h₀ L h news) (hs : ∀ p ∈ news', p ∈ news) : News h₀ L h news' := fun p hp => N p (hs p hp)
/-- a new object of a callee's onto the ledger -/
theorem news_more {h₀ h h' : Heap} {L a : Addr} {o : Obj} {m : Str → Option Value} {news : List (Addr × Obj)} (F : Fr h₀ L h m) (N : News h₀ L h news) (k : Kp h h') (ha : h.objs.size ≤ a) (ho : h'.get? a = some o) :
    News h₀ L h' ((a, o) :: news) := by
  intro p hp
  rcases List.mem_cons.mp hp with rfl | hp
  · obtain ⟨oL, _, _, hL, _⟩ := F.ns
    refine ⟨ho, Nat.ne_of_gt (Nat.lt_of_lt_of_le (Heap.lt_size hL) ha), ?_⟩
    cases q : h₀.get? a with
    | none => rfl
    | some o' => exact absurd (Heap.lt_size (F.keep _ _ q)) (Nat.not_lt.mpr ha)
  · exact news_kp N k p hp
theorem news_tl {h₀ h : Heap} {L : Addr} {p : Addr × Obj} {news : List (Addr × Obj)} (N : News h₀ L h (p :: news)) : News h₀ L h news := fun q hq => N q (.tail _ hq)
theorem fr_but {h₀ h h' : Heap} {L : Addr} {m : Str → Option Value} {wr : List Addr} (F : Fr h₀ L h m) (k : KpBut wr h h') (hL : L ∉ wr) (h0 : ∀ b ∈ wr, h₀.get? b = none) : Fr h₀ L h' m :=
  ⟨F.ns.at' fun o e => k _ o hL e, fun b o e => k b o (fun hb => by rw [h0 b hb] at e; cases e) (F.keep b o e), F.above⟩
theorem news_but {h₀ h h' : Heap} {L : Addr} {news : List (Addr × Obj)} {wr : List Addr} (N : News h₀ L h news) (k : KpBut wr h h') (hn : ∀ p ∈ news, p.1 ∉ wr) : News h₀ L h' news :=
  fun p hp => ⟨k _ _ (hn p hp) (N p hp).1, (N p hp).2⟩
theorem fresh_none {h₀ h : Heap} {L a : Addr} {m : Str → Option Value} (F : Fr h₀ L h m) (ha : h.objs.size ≤ a) : h₀.get? a = none := by
  cases q : h₀.get? a with
  | none => rfl
  | some o' => exact absurd (Heap.lt_size (F.keep _ _ q)) (Nat.not_lt.mpr ha)
theorem fr_lt {h₀ h : Heap} {L : Addr} {m : Str → Option Value} (F : Fr h₀ L h m) : @LT.lt Nat _ L h.objs.size := by
  obtain ⟨oL, _, _, hL, _⟩ := F.ns
  exact Heap.lt_size hL
theorem news_lt {h₀ h : Heap} {L : Addr} {news : List (Addr × Obj)} (N : News h₀ L h news) : ∀ p ∈ news, @LT.lt Nat _ p.1 h.objs.size := fun p hp => Heap.lt_size (N p hp).1

section
variable {prog : Program} {w : World} {A : Around} {E : Value → Shared → Prop} {s : Shared} {env : Env} {R : Result → Shared → Prop}

theorem any_noE {α : Type} {M : Model} {t : Sem α} {Q : α → Shared → Prop} (h : wpAny M A t Q NoE s) : wpAny M A t Q E s := wpAny_mono h (fun _ _ x => x) fun _ _ x => x.elim
theorem clean_noE {α : Type} {M : Model} {t : Sem α} {Q : α → Shared → Prop} (h : wpC M A t Q NoE s) : wpC M A t Q E s := wpC_mono h (fun _ _ x => x) fun _ _ x => x.elim

/-- a for, one turn at a time -/
theorem forA_step {target it body orelse} (h : wpAny (model prog w) A (pyNext it) (fun r s₁ => match r with
      | none => wpAny (model prog w) A (execs orelse env) (fun f s₃ => R (.ok f) s₃) NoE s₁
      | some v => wpAny (model prog w) A (letOwnedTupleGo target it v) (fun _ s₁' =>
          wpAny (model prog w) A (assign target env v) (fun _ s₂ => wpAny (model prog w) A (execs body env) (fun f s₃ => match f with
            | .next | .cont => codeAny (model prog w) A (.forLoop target it body orelse env) R s₃
            | .brk => R (.ok .next) s₃
            | .ret v => R (.ok (.ret v)) s₃) NoE s₂) NoE s₁') NoE s₁) NoE s) : codeAny (model prog w) A (.forLoop target it body orelse env) R s := by
  refine codeAny_of_tree ?_
  show wpAny _ A ((forTurn target it body orelse env).onRaise (fun x => do noteFrame x env; theTreesLotGoes x)) _ _ s
  refine wpAny_onRaise (any_noE ?_)
  simp only [forTurn]
  refine wpAny_bind (wpAny_standAt (wpAny_bind (wpAny_onRaise (wpAny_mono h (fun r s₁ h₁ => ?_) fun _ _ h' => h'.elim))))
  cases r with
  | none => exact wpAny_pure ⟨rfl, codeAny_block (any_noE h₁)⟩
  | some v =>
    refine wpAny_bind (wpAny_mono h₁ (fun _ s₁' h₁' => ?_) fun _ _ h' => h')
    refine wpAny_bind (wpAny_mono h₁' (fun _ s₂ h₂ => wpAny_bind (wpAny_mono h₂ (fun f s₃ h₃ => ?_) fun _ _ h' => h')) fun _ _ h' => h')
    cases f with
    | next => exact wpAny_pure ⟨rfl, h₃⟩
    | cont => exact wpAny_pure ⟨rfl, h₃⟩
    | brk => exact wpAny_pure h₃
    | ret v => exact wpAny_pure h₃

theorem codeC_block {stmts : List Stmt} (h : wpC (model prog w) A (execs stmts env) (fun f s' => R (.ok f) s') NoE s) : codeC (model prog w) A (.block stmts env) R s := by
  refine codeC_of_tree ?_
  show wpC _ _ (do return Fin.done (← (execs stmts env).onRaise (fun x => do noteFrame x env; theTreesLotGoes x))) _ _ s
  exact wpC_bind (wpC_onRaise (wpC_mono h (fun f s' h' => wpC_pure h') fun _ _ h' => h'.elim))

theorem forC_step {target it body orelse} (h : wpAny (model prog w) A (pyNext it) (fun r s₁ => match r with
      | none => wpC (model prog w) A (execs orelse env) (fun f s₃ => R (.ok f) s₃) NoE s₁
      | some v => wpAny (model prog w) A (letOwnedTupleGo target it v) (fun _ s₁' =>
          wpAny (model prog w) A (assign target env v) (fun _ s₂ => wpC (model prog w) A (execs body env) (fun f s₃ => match f with
            | .next | .cont => codeC (model prog w) A (.forLoop target it body orelse env) R s₃
            | .brk => R (.ok .next) s₃
            | .ret v => R (.ok (.ret v)) s₃) NoE s₂) NoE s₁') NoE s₁) NoE s) : codeC (model prog w) A (.forLoop target it body orelse env) R s := by
  refine codeC_of_tree ?_
  show wpC _ A ((forTurn target it body orelse env).onRaise (fun x => do noteFrame x env; theTreesLotGoes x)) _ _ s
  refine wpC_onRaise (clean_noE ?_)
  simp only [forTurn]
  refine wpC_seq (wpAny_standAt (wpC_seq (wpAny_onRaise (wpAny_mono h (fun r s₁ h₁ => ?_) fun _ _ h' => h'.elim))))
  cases r with
  | none => exact wpC_pure ⟨rfl, codeC_block h₁⟩
  | some v =>
    refine wpC_seq (wpAny_mono h₁ (fun _ s₁' h₁' => ?_) fun _ _ h' => h')
    refine wpC_seq (wpAny_mono h₁' (fun _ s₂ h₂ => wpC_bind (wpC_mono h₂ (fun f s₃ h₃ => ?_) fun _ _ h' => h')) fun _ _ h' => h')
    cases f with
    | next => exact wpC_pure ⟨rfl, h₃⟩
    | cont => exact wpC_pure ⟨rfl, h₃⟩
    | brk => exact wpC_pure h₃
    | ret v => exact wpC_pure h₃

/-- the loop code's end, as a statement's -/
def Ret (Q : Flow → Shared → Prop) : Result → Shared → Prop
  | .ok f, s' => Q f s'
  | .error _, _ => False
theorem wpC_runOwn {M : Model} {c : Code} {Q : Flow → Shared → Prop} (hc : codeC M A c (Ret Q) s) : wpC M A (runOwn c env) Q E s := by
  unfold runOwn
  refine wpC_onRaise (wpC_run (codeC_mono hc fun r s' h => ?_))
  cases r with
  | ok f => exact h
  | error e => exact h.elim
theorem forA {target iter body orelse pos} {Q : Flow → Shared → Prop}
    (h : wpAny (model prog w) A (eval iter env) (fun x s₁ => wpAny (model prog w) A (pyIter x) (fun it s₂ => codeAny (model prog w) A (.forLoop target it body orelse env) (Ret Q) s₂) E s₁) E s)
    (hs : ∀ x, foldedSetIterable iter env x = pure x := by intro _; rfl) :
    wpAny (model prog w) A (exec (.For target iter body orelse pos) env) Q E s := by
  refine wpAny_For (wpAny_mono h (fun x s₁ h₁ => wpAny_mono h₁ (fun it s₂ h₂ => codeAny_mono h₂ fun r s' hr => ?_) fun _ _ e => e) fun _ _ e => e) hs
  cases r with
  | ok f => exact hr
  | error e => exact hr.elim
theorem forC {target iter body orelse pos} {Q : Flow → Shared → Prop}
    (h : wpAny (model prog w) A (eval iter env) (fun x s₁ => wpAny (model prog w) A (pyIter x) (fun it s₂ => codeC (model prog w) A (.forLoop target it body orelse env) (Ret Q) s₂) E s₁) E s)
    (hs : ∀ x, foldedSetIterable iter env x = pure x := by intro _; rfl) :
    wpC (model prog w) A (exec (.For target iter body orelse pos) env) Q E s := by
  rw [exec_For]
  refine wpC_seq (wpAny_standAt (wpC_seq (wpAny_mono h (fun x s₁ h₁ => wpC_bind (wpC_of_any (wpAny_of_eq (hs x) ?_))) fun _ _ e => e)))
  refine wpC_seq (wpAny_standAt (wpC_seq (wpAny_holding (wpAny_mono h₁ (fun it s₂ h₂ => wpC_runOwn h₂) fun _ _ e => e))))

theorem go_name {x : Str} {px : Pos} {it v : Value} {Q : Unit → Shared → Prop} (h : Q () s) : wpAny (model prog w) A (letOwnedTupleGo (.Name x px) it v) Q E s := wpAny_of_eq (a := ()) rfl h
theorem go_tupleIter {elts k pos I l i} {v : Value} {Q : Unit → Shared → Prop} (hi : s.heap.IsTupleIter I l i) (h : Q () s) : wpAny (model prog w) A (letOwnedTupleGo (.Tuple elts k pos) (.ref I) v) Q E s := by
  obtain ⟨o, ho, hc, hd⟩ := hi
  cases v with
  | ref a =>
    show wpAny _ _ (load I >>= _) _ _ _
    refine wpAny_bind (wpAny_load ho ?_)
    rw [hc, hd]
    refine any_if_false ?_ (wpAny_pure h)
    rw [show (["enumerate", "zip", "dict_itemiterator", "dict_reverseitemiterator", "odict_iterator", "itertools.zip_longest", "itertools.pairwise"].contains "tuple_iterator") = false from by decide +kernel]
    rfl
  | _ => exact wpAny_pure h

theorem assign_pair {x0 x1 : Str} {p0 p1 pos : Pos} {k : Nat} {t : Addr} {v0 v1 : Value} {Q : Unit → Shared → Prop} (hh : A.handled = none) (ht : s.heap.IsTuple t #[v0, v1])
    (h : ∀ h', Kp s.heap h' → wpAny (model prog w) A (storeName env x0 v0) (fun _ s₁ => wpAny (model prog w) A (storeName env x1 v1) Q E s₁) E { s with heap := h' }) :
    wpAny (model prog w) A (assign (.Tuple [.Name x0 p0, .Name x1 p1] k pos) env (.ref t)) Q E s := by
  refine wpAny_assign_Tuple hh ht rfl rfl fun h' hx => ?_
  show wpAny _ A (do holding [v1] (assign (.Name x0 p0) env v0); do holding [] (assign (.Name x1 p1) env v1); pure ()) _ _ _
  refine wpAny_bind (wpAny_holding (wpAny_assign_Name ?_))
  refine wpAny_mono (h h' fun b o e => hx b o (Nat.ne_of_lt (Heap.lt_size e)) e) (fun _ s₁ h₁ => ?_) fun _ _ e => e
  exact wpAny_bind (wpAny_holding (wpAny_assign_Name (wpAny_mono h₁ (fun _ _ q => wpAny_pure q) fun _ _ e => e)))
end
end
/-! Enter -/
section
set_option maxRecDepth 100000
set_option maxHeartbeats 4000000
section
variable {prog : Program} {w : World} {A : Around} {E : Value → Shared → Prop} {s : Shared} {R : Result → Shared → Prop}
theorem codeC_func {body env} (h : wpC (model prog w) (A.deeper env) (execs body env) (fun f s' => R (.ok (.ret (match f with | .ret v => v | _ => .none))) s') NoE s) :
    codeC (model prog w) A (.func body env) R s := by
  refine codeC_of_tree ?_
  show wpC _ (A.deeper env) (do point; match ← (execs body env).onRaise (leaving env) with | .ret v => ret v | _ => ret .none) _ _ s
  refine wpC_seq (wpAny_point (wpC_bind (wpC_onRaise (wpC_mono h (fun f s' h' => ?_) fun _ _ h' => h'.elim))))
  cases f <;> exact wpC_pure h'
theorem codeC_call_function {a : Addr} {args : Args} {o : Obj} {fd : FuncData} {body : List Stmt} (hroom : A.depth < recursionLimit)
    (ho : s.heap.get? a = some o) (hd' : o.data = .func fd) (hco : fd.scope.isCoroutine = false) (hgen : fd.scope.isGenerator = false) (hbody : fd.body = .stmts body) (hcd : s.heap.CodeRec fd.code fd.qualname)
    (h : wpAny (model prog w) A.in1 (bindArgs fd args) (fun binds s₁ =>
      wpAny (model prog w) A.in1 (newFunctionEnv fd.scope fd.globals fd.closure binds (fd.qualname ++ ".<locals>.") (some a) fd.code none fd.builtins)
        (fun env s₂ => s₂.heap.NoLimit ∧ codeC (model prog w) A (.func body env) R s₂) NoE s₁) NoE s) :
    codeC (model prog w) A (.call (.ref a) args) R s := by
  refine codeC_of_tree (wpC_of_any ?_)
  show wpAny _ A.in1 (callAny (.ref a) args) _ _ s
  simp only [callAny]
  refine wpAny_bind (wpAny_load ho ?_)
  obtain ⟨c, oc, vs, tq, hc, hoc, hdc, hq⟩ := hcd
  simp only [hd', callFunction, hco, hgen, hbody, hc]
  rw [hc] at h
  refine wpAny_bind (m := field (.ref c) 1) (wpAny_field hoc hdc hq (wpAny_bind (wpAny_pure ?_)))
  exact wpAny_bind (any_noE (wpAny_mono h (fun binds s₁ h₁ => wpAny_bind (any_noE (wpAny_mono h₁ (fun env s₂ h₂ => wpAny_bind (wpAny_enterFrame h₂.1 hroom
    (wpAny_pure (And.intro rfl h₂.2)))) fun _ _ h' => h'))) fun _ _ h' => h'))

variable {K : Frag} {p : Program} {loose : List Str} {mean : ExcName → Option Value} {mg mb : Str → Option Value}
  {f : Addr} {name qual : Str} {params : Arguments} {body : List Stmt} {scope : Scope} {dV kV doc pm cdv ct oc : Value} {an od : Option Addr} {osl : Array (Option Value)} {vals : List Value} {binds : List (Str × Value)} {Q : Value → Shared → Prop}

theorem callA (X : K.In s.heap) (T : Top p loose mean mg mb s.heap) (hroom : A.depth < recursionLimit)
    (ho : K.lookup f = some ⟨oc, od, .func (fnOf name qual params body scope dV kV doc pm an cdv ct), osl⟩) (hcd : codeIn K cdv qual = true)
    (hbind : bindArgs (fnOf name qual params body scope dV kV doc pm an cdv ct) ⟨vals, []⟩ = pure binds) (hloc : ∀ y ∈ binds, scope.names.lookup y.1 = some .local)
    (hcell : ∀ x ∈ scope.names, x.2 ≠ .cell) (hco : scope.isCoroutine = false) (hgen : scope.isGenerator = false) (hk : scope.kind = .function)
    (h : ∀ h₁, Fr s.heap s.heap.objs.size h₁ (fun y => binds.reverse.lookup y) → News s.heap s.heap.objs.size h₁ [] → K.In s.heap → Top p loose mean mg mb s.heap →
      wpAny (model prog w) (A.deeper (envOf qual scope s.heap.objs.size f cdv)) (execs body (envOf qual scope s.heap.objs.size f cdv))
        (fun fl s' => Q (match fl with | .ret v => v | _ => .none) s') NoE { s with heap := h₁, toks := s.toks + binds.length }) :
    wpAny (model prog w) A (call (.ref f) vals) Q E s := by
  refine wpAny_call (codeAny_call_function hroom (X _ _ ho) rfl hco hgen rfl (codeRec_of X hcd) ?_)
  rw [hbind]
  refine wpAny_pure (wpAny_newFunctionEnv hcell hloc (fun h₁ hns hsb => ⟨T.nolimit.fresh _ hsb, ?_⟩) hk)
  show codeAny _ _ (.func body (envOf qual scope s.heap.objs.size f cdv)) _ _
  refine codeAny_func (any_noE (h h₁ ⟨hns, fun b o e => hsb.extBut b o (Nat.ne_of_lt (Heap.lt_size e)) (Heap.get?_push_of_some _ e), Nat.le_refl _⟩ News.nil X T))
theorem callC (X : K.In s.heap) (T : Top p loose mean mg mb s.heap) (hroom : A.depth < recursionLimit)
    (ho : K.lookup f = some ⟨oc, od, .func (fnOf name qual params body scope dV kV doc pm an cdv ct), osl⟩) (hcd : codeIn K cdv qual = true)
    (hbind : bindArgs (fnOf name qual params body scope dV kV doc pm an cdv ct) ⟨vals, []⟩ = pure binds) (hloc : ∀ y ∈ binds, scope.names.lookup y.1 = some .local)
    (hcell : ∀ x ∈ scope.names, x.2 ≠ .cell) (hco : scope.isCoroutine = false) (hgen : scope.isGenerator = false) (hk : scope.kind = .function)
    (h : ∀ h₁, Fr s.heap s.heap.objs.size h₁ (fun y => binds.reverse.lookup y) → News s.heap s.heap.objs.size h₁ [] → K.In s.heap → Top p loose mean mg mb s.heap →
      wpC (model prog w) (A.deeper (envOf qual scope s.heap.objs.size f cdv)) (execs body (envOf qual scope s.heap.objs.size f cdv))
        (fun fl s' => Q (match fl with | .ret v => v | _ => .none) s') NoE { s with heap := h₁, toks := s.toks + binds.length }) :
    wpC (model prog w) A (call (.ref f) vals) Q E s := by
  refine wpC_call (codeC_call_function hroom (X _ _ ho) rfl hco hgen rfl (codeRec_of X hcd) ?_)
  rw [hbind]
  refine wpAny_pure (wpAny_newFunctionEnv hcell hloc (fun h₁ hns hsb => ⟨T.nolimit.fresh _ hsb, ?_⟩) hk)
  show codeC _ _ (.func body (envOf qual scope s.heap.objs.size f cdv)) _ _
  refine codeC_func (h h₁ ⟨hns, fun b o e => hsb.extBut b o (Nat.ne_of_lt (Heap.lt_size e)) (Heap.get?_push_of_some _ e), Nat.le_refl _⟩ News.nil X T)
end
end
/-! Loops2 -/
section
set_option maxRecDepth 100000
set_option maxHeartbeats 4000000
theorem nin1 {a b : Addr} (h1 : @Ne Nat a b) : a ∉ [b] := by
  intro h
  rcases List.mem_cons.mp h with h | h
  · exact h1 h
  · cases h
theorem nin2 {a b c : Addr} (h1 : @Ne Nat a b) (h2 : @Ne Nat a c) : a ∉ [b, c] := by
  intro h
  rcases List.mem_cons.mp h with h | h
  · exact h1 h
  · exact nin1 h2 h
theorem all1 {P : Addr → Prop} {b : Addr} (h1 : P b) : ∀ x ∈ [b], P x := by
  intro x h
  rcases List.mem_cons.mp h with rfl | h
  · exact h1
  · cases h
theorem all2 {P : Addr → Prop} {b c : Addr} (h1 : P b) (h2 : P c) : ∀ x ∈ [b, c], P x := by
  intro x h
  rcases List.mem_cons.mp h with rfl | h
  · exact h1
  · exact all1 h2 x h
theorem same_but {a : Addr} {h h' : Heap} (k : Heap.SameBut a h h') : KpBut [a] h h' := fun b o hb q => (k.2 b fun z => hb (by rw [z]; exact .head _)).trans q
theorem ext_but {a : Addr} {h h' : Heap} (k : Heap.ExtBut a h h') : KpBut [a] h h' := fun b o hb q => k b o (fun z => hb (by rw [z]; exact .head _)) q
theorem news_one {h₀ h : Heap} {L a : Addr} {o : Obj} (ho : h.get? a = some o) (hL : @Ne Nat a L) (h0 : h₀.get? a = none) : News h₀ L h [(a, o)] := by
  intro p hp
  rcases List.mem_cons.mp hp with rfl | hp
  · exact ⟨ho, hL, h0⟩
  · cases hp
theorem news_cons {h₀ h : Heap} {L a : Addr} {o : Obj} {news : List (Addr × Obj)} (ho : h.get? a = some o) (hL : @Ne Nat a L) (h0 : h₀.get? a = none) (N : News h₀ L h news) : News h₀ L h ((a, o) :: news) := by
  intro p hp
  rcases List.mem_cons.mp hp with rfl | hp
  · exact ⟨ho, hL, h0⟩
  · exact N p hp
section
variable {prog : Program} {w : World} {A : Around} {E : Value → Shared → Prop} {env : Env} {R : Result → Shared → Prop}

/-- a for by what holds ahead of each turn -/
theorem forA_inv {target it body orelse} (n : Nat) (J : Nat → Shared → Prop)
    (turn : ∀ i s, i < n → J i s → wpAny (model prog w) A (pyNext it) (fun r s₁ => ∃ v, r = some v ∧ wpAny (model prog w) A (letOwnedTupleGo target it v) (fun _ s₁' =>
          wpAny (model prog w) A (assign target env v) (fun _ s₂ => wpAny (model prog w) A (execs body env) (fun f s₃ => match f with
            | .next | .cont => J (i + 1) s₃
            | .brk => R (.ok .next) s₃
            | .ret v => R (.ok (.ret v)) s₃) NoE s₂) NoE s₁') NoE s₁) NoE s)
    (done : ∀ s, J n s → wpAny (model prog w) A (pyNext it) (fun r s₁ => r = none ∧ wpAny (model prog w) A (execs orelse env) (fun f s₃ => R (.ok f) s₃) NoE s₁) NoE s) :
    ∀ (k i : Nat) (s : Shared), k = n - i → i ≤ n → J i s → codeAny (model prog w) A (.forLoop target it body orelse env) R s := by
  intro k
  induction k with
  | zero =>
    intro i s hk hi hJ
    obtain rfl : i = n := by omega
    refine forA_step (wpAny_mono (done s hJ) (fun r s₁ h₁ => ?_) fun _ _ e => e)
    obtain ⟨rfl, h₁⟩ := h₁
    exact h₁
  | succ k ih =>
    intro i s hk hi hJ
    refine forA_step (wpAny_mono (turn i s (by omega) hJ) (fun r s₁ h₁ => ?_) fun _ _ e => e)
    obtain ⟨v, rfl, h₁⟩ := h₁
    refine wpAny_mono h₁ (fun _ s₁' h₂ => wpAny_mono h₂ (fun _ s₂ h₃ => wpAny_mono h₃ (fun f s₃ h₄ => ?_) fun _ _ e => e) fun _ _ e => e) fun _ _ e => e
    cases f with
    | next => exact ih (i + 1) s₃ (by omega) (by omega) h₄
    | cont => exact ih (i + 1) s₃ (by omega) (by omega) h₄
    | brk => exact h₄
    | ret v => exact h₄
theorem forC_inv {target it body orelse} (n : Nat) (J : Nat → Shared → Prop)
    (turn : ∀ i s, i < n → J i s → wpAny (model prog w) A (pyNext it) (fun r s₁ => ∃ v, r = some v ∧ wpAny (model prog w) A (letOwnedTupleGo target it v) (fun _ s₁' =>
          wpAny (model prog w) A (assign target env v) (fun _ s₂ => wpC (model prog w) A (execs body env) (fun f s₃ => match f with
            | .next | .cont => J (i + 1) s₃
            | .brk => R (.ok .next) s₃
            | .ret v => R (.ok (.ret v)) s₃) NoE s₂) NoE s₁') NoE s₁) NoE s)
    (done : ∀ s, J n s → wpAny (model prog w) A (pyNext it) (fun r s₁ => r = none ∧ wpC (model prog w) A (execs orelse env) (fun f s₃ => R (.ok f) s₃) NoE s₁) NoE s) :
    ∀ (k i : Nat) (s : Shared), k = n - i → i ≤ n → J i s → codeC (model prog w) A (.forLoop target it body orelse env) R s := by
  intro k
  induction k with
  | zero =>
    intro i s hk hi hJ
    obtain rfl : i = n := by omega
    refine forC_step (wpAny_mono (done s hJ) (fun r s₁ h₁ => ?_) fun _ _ e => e)
    obtain ⟨rfl, h₁⟩ := h₁
    exact h₁
  | succ k ih =>
    intro i s hk hi hJ
    refine forC_step (wpAny_mono (turn i s (by omega) hJ) (fun r s₁ h₁ => ?_) fun _ _ e => e)
    obtain ⟨v, rfl, h₁⟩ := h₁
    refine wpAny_mono h₁ (fun _ s₁' h₂ => wpAny_mono h₂ (fun _ s₂ h₃ => wpC_mono h₃ (fun f s₃ h₄ => ?_) fun _ _ e => e) fun _ _ e => e) fun _ _ e => e
    cases f with
    | next => exact ih (i + 1) s₃ (by omega) (by omega) h₄
    | cont => exact ih (i + 1) s₃ (by omega) (by omega) h₄
    | brk => exact h₄
    | ret v => exact h₄

variable {s : Shared}
/-- a turn of «for x0, x1 in enumerate(..)» up to its body -/
theorem enum_turn {x0 x1 : Str} {p0 p1 pos : Pos} {k : Nat} {e it : Addr} {fp : List Addr} {n i : Nat} {P : Nat → Value → Prop} {St : Nat → Heap → Prop} {old : Value} {Q : Unit → Shared → Prop} (hh : A.handled = none)
    (D : Draws prog w A.in1 it fp n P St) (he : IsEnum s.heap e it i old) (hst : St i s.heap) (hlt : i < n) (hne : e ≠ it) (hef : e ∉ fp)
    (h : ∀ x tx h' tk, P i x → (∃ old', IsEnum h' e it ((i : Int) + 1) old') → St (i + 1) h' → KpBut [e, it] s.heap h' →
      wpAny (model prog w) A (storeName env x0 (.int i tx)) (fun _ s₁ => wpAny (model prog w) A (storeName env x1 x) Q NoE s₁) NoE { s with heap := h', toks := tk }) :
    wpAny (model prog w) A (pyNext (.ref e)) (fun r s₁ => ∃ v, r = some v ∧ wpAny (model prog w) A (letOwnedTupleGo (.Tuple [.Name x0 p0, .Name x1 p1] k pos) (.ref e) v) (fun _ s₁' =>
      wpAny (model prog w) A (assign (.Tuple [.Name x0 p0, .Name x1 p1] k pos) env v) Q NoE s₁') NoE s₁) NoE s := by
  refine wpAny_pyNext_enum_itemD D he hst hlt hne hef fun x h₁ tk hP ho hs' hT hsz hk => ⟨_, rfl, ?_⟩
  have helt : e < s.heap.objs.size := Heap.lt_size he
  refine wpAny_letOwnedTupleGo_enum ho fun h₂ he₂ hs₂ => ?_
  have hT₂ : h₂.IsTuple s.heap.objs.size #[.int i tk, x] := ⟨_, (hs₂.2 _ (Nat.ne_of_gt helt)).trans hT, rfl, _, rfl⟩
  refine assign_pair hh hT₂ fun h₃ hk₃ => ?_
  refine h x tk h₃ (tk + 1) hP ⟨_, hk₃ _ _ he₂⟩ ?_ fun b o hb q => ?_
  · exact D.frame _ _ _ hs' fun b hb o q => hk₃ _ _ ((hs₂.2 b fun z => hef (z ▸ hb)).trans q)
  · have hbe : b ≠ e := fun z => hb (by simp [z])
    have hbi : b ≠ it := fun z => hb (by simp [z])
    exact hk₃ _ _ ((hs₂.2 b hbe).trans (hk b o hbe hbi q))
theorem enum_done {e it : Addr} {fp : List Addr} {n : Nat} {P : Nat → Value → Prop} {St : Nat → Heap → Prop} {i : Int} {old : Value} {Q : Shared → Prop}
    (D : Draws prog w A.in1 it fp n P St) (he : IsEnum s.heap e it i old) (hst : St n s.heap) (h : ∀ h', KpBut [e, it] s.heap h' → Q { s with heap := h' }) :
    wpAny (model prog w) A (pyNext (.ref e)) (fun r s₁ => r = none ∧ Q s₁) NoE s :=
  wpAny_pyNext_enum_endD D he hst fun h' hx => ⟨rfl, h h' fun b o hb q => hx b o (fun z => hb (by simp [z])) q⟩
end
end
/-! Plain -/
section
set_option maxRecDepth 100000
/-- the kinds' letters by mode / 4096 -/
def kinds : List Nat := [63, 112, 99, 63, 100, 63, 98, 63, 45, 63, 108, 63, 115, 63, 63, 63]
/-- the sign of place p (0 to 8) in the row of m -/
def signAt (m p : Nat) : Nat :=
  if p % 3 = 2 ∧ m / 2 ^ (11 - p / 3) % 2 = 1 then
    (if p / 3 = 2 then (if m / 2 ^ (8 - p) % 2 = 1 then 116 else 84) else (if m / 2 ^ (8 - p) % 2 = 1 then 115 else 83))
  else if m / 2 ^ (8 - p) % 2 = 1 then [114, 119, 120].getD (p % 3) 0 else 45
def codeAt (m i : Nat) : Nat := match i with
  | 0 => kinds.getD (m / 4096) 63
  | p + 1 => signAt m p
def codes (m : Nat) : List Nat := (List.range 10).map (codeAt m)
theorem codes_length (m : Nat) : (codes m).length = 10 := by simp [codes]
theorem codes_get {m i : Nat} (h : i < 10) : (codes m)[i]? = some (codeAt m i) := by
  unfold codes; rw [List.getElem?_map, List.getElem?_range h]; rfl
theorem codes_take {m i : Nat} (h : i < 10) : (codes m).take (i + 1) = (codes m).take i ++ [codeAt m i] := by
  rw [List.take_add_one, codes_get h]; rfl
def one (c : Nat) : Str := ⟨#[c]⟩

/-- the table of filemode: for each of the ten places the masks and letters -/
def es : Nat → List (Nat × Nat)
  | 0 => [(40960, 108), (49152, 115), (32768, 45), (24576, 98), (16384, 100), (8192, 99), (4096, 112)]
  | 1 => [(256, 114)]
  | 2 => [(128, 119)]
  | 3 => [(2112, 115), (2048, 83), (64, 120)]
  | 4 => [(32, 114)]
  | 5 => [(16, 119)]
  | 6 => [(1032, 115), (1024, 83), (8, 120)]
  | 7 => [(4, 114)]
  | 8 => [(2, 119)]
  | 9 => [(513, 116), (512, 84), (1, 120)]
  | _ => []
def test (i m b : Nat) : Bool := if i = 0 then m &&& 61440 == b else m &&& b == b
def pickFrom (i m : Nat) : List (Nat × Nat) → Nat
  | [] => if i = 0 then 63 else 45
  | e :: r => if test i m e.1 then e.2 else pickFrom i m r

theorem and_bit (m k : Nat) : m &&& 2 ^ k = 2 ^ k * (m / 2 ^ k % 2) := by
  have hm : m / 2 ^ k % 2 = 0 ∨ m / 2 ^ k % 2 = 1 := by omega
  have hb := Nat.testBit_eq_decide_div_mod_eq (x := m) (i := k)
  apply Nat.eq_of_testBit_eq
  intro i
  rw [Nat.testBit_and, Nat.testBit_two_pow]
  rcases hm with h | h
  · rw [h] at hb ⊢
    by_cases e : k = i
    · subst e; simp [hb]
    · simp [e]
  · rw [h] at hb ⊢
    rw [Nat.mul_one, Nat.testBit_two_pow]
    by_cases e : k = i
    · subst e; simp [hb]
    · simp [e]
theorem and_high {m : Nat} (h : m < 65536) : m &&& 61440 = 4096 * (m / 4096) := by
  have e : (61440 : Nat) = 2 ^ 12 ||| 2 ^ 13 ||| 2 ^ 14 ||| 2 ^ 15 := by decide
  rw [e, Nat.and_or_distrib_left, Nat.and_or_distrib_left, Nat.and_or_distrib_left, and_bit, and_bit, and_bit, and_bit]
  have q : m / 4096 < 16 := by omega
  have a : m / 2 ^ 12 = m / 4096 := rfl
  have b : m / 2 ^ 13 = m / 4096 / 2 := by rw [Nat.div_div_eq_div_mul]
  have c : m / 2 ^ 14 = m / 4096 / 4 := by rw [Nat.div_div_eq_div_mul]
  have d : m / 2 ^ 15 = m / 4096 / 8 := by rw [Nat.div_div_eq_div_mul]
  rw [a, b, c, d]
  generalize m / 4096 = x at q
  revert x
  decide
theorem test_bit {i m k : Nat} (hi : i ≠ 0) : test i m (2 ^ k) = decide (m / 2 ^ k % 2 = 1) := by
  unfold test
  rw [if_neg hi, and_bit]
  have : m / 2 ^ k % 2 = 0 ∨ m / 2 ^ k % 2 = 1 := by omega
  have p : 2 ^ k > 0 := Nat.two_pow_pos k
  rcases this with h | h
  · rw [h]; simp; omega
  · rw [h]; simp
theorem two_bits {a b : Nat} (h : a ≠ b) (x y : Nat) (hx : x = 0 ∨ x = 1) (hy : y = 0 ∨ y = 1) : (2 ^ a * x ||| 2 ^ b * y == 2 ^ a ||| 2 ^ b) = (decide (x = 1) && decide (y = 1)) := by
  rcases hx with rfl | rfl <;> rcases hy with rfl | rfl
  · simp
    intro e
    have := congrArg (Nat.testBit · a) e
    simp [Nat.testBit_or, Nat.testBit_two_pow] at this
  · simp
    intro e
    have := congrArg (Nat.testBit · a) e
    simp [Nat.testBit_or, Nat.testBit_two_pow, Ne.symm h] at this
  · simp
    intro e
    have := congrArg (Nat.testBit · b) e
    simp [Nat.testBit_or, Nat.testBit_two_pow, h] at this
  · simp
theorem test_two {i m a b : Nat} (hi : i ≠ 0) (h : a ≠ b) : test i m (2 ^ a ||| 2 ^ b) = (decide (m / 2 ^ a % 2 = 1) && decide (m / 2 ^ b % 2 = 1)) := by
  unfold test
  rw [if_neg hi, Nat.and_or_distrib_left, and_bit, and_bit]
  exact two_bits h _ _ (by omega) (by omega)

theorem pick_kind {m : Nat} (h : m < 65536) : pickFrom 0 m (es 0) = codeAt m 0 := by
  simp only [es, pickFrom, test, if_true, and_high h, codeAt]
  have q : m / 4096 < 16 := by omega
  generalize m / 4096 = x at q
  revert x
  decide
theorem pick_plain {m k c p : Nat} (hp : p % 3 ≠ 2) (hk : 8 - p = k) (hc : [114, 119, 120].getD (p % 3) 0 = c) : pickFrom (p + 1) m [(2 ^ k, c)] = signAt m p := by
  simp only [pickFrom, test_bit (Nat.succ_ne_zero p), signAt, hk, hc]
  by_cases h : m / 2 ^ k % 2 = 1 <;> simp [h, hp]
theorem pick_x {m k a p c C : Nat} (hp : p % 3 = 2) (hk : 8 - p = k) (ha : 11 - p / 3 = a) (hak : a ≠ k) (hc : (if p / 3 = 2 then 116 else 115) = c) (hC : (if p / 3 = 2 then 84 else 83) = C) :
    pickFrom (p + 1) m [(2 ^ a ||| 2 ^ k, c), (2 ^ a, C), (2 ^ k, 120)] = signAt m p := by
  simp only [pickFrom, test_bit (Nat.succ_ne_zero p), test_two (Nat.succ_ne_zero p) hak, signAt, hk, ha, hp]
  subst hc hC
  by_cases h : m / 2 ^ k % 2 = 1 <;> by_cases h' : m / 2 ^ a % 2 = 1 <;> by_cases h'' : p / 3 = 2 <;> simp [h, h', h'']
theorem pick_eq {m i : Nat} (h : m < 65536) (hi : i < 10) : pickFrom i m (es i) = codeAt m i := by
  match i, hi with
  | 0, _ => exact pick_kind h
  | 1, _ => exact pick_plain (p := 0) (k := 8) (by decide) rfl rfl
  | 2, _ => exact pick_plain (p := 1) (k := 7) (by decide) rfl rfl
  | 3, _ => exact pick_x (p := 2) (k := 6) (a := 11) (by decide) rfl rfl (by decide) rfl rfl
  | 4, _ => exact pick_plain (p := 3) (k := 5) (by decide) rfl rfl
  | 5, _ => exact pick_plain (p := 4) (k := 4) (by decide) rfl rfl
  | 6, _ => exact pick_x (p := 5) (k := 3) (a := 10) (by decide) rfl rfl (by decide) rfl rfl
  | 7, _ => exact pick_plain (p := 6) (k := 2) (by decide) rfl rfl
  | 8, _ => exact pick_plain (p := 7) (k := 1) (by decide) rfl rfl
  | 9, _ => exact pick_x (p := 8) (k := 0) (a := 9) (by decide) rfl rfl (by decide) rfl rfl
  | n + 10, h => omega
theorem bitAnd_nat (a b : Nat) : Builtin.bitAnd (a : Int) (b : Int) = ((a &&& b : Nat) : Int) := by
  unfold Builtin.bitAnd
  rw [decide_eq_true (Int.natCast_nonneg a), decide_eq_true (Int.natCast_nonneg b)]
  simp
end
/-! Top -/
section
set_option maxRecDepth 100000
set_option maxHeartbeats 8000000
open_top hd for PySem.Challenge.rw_pg0089_02
end
/-! FM -/
theorem fresh_FM : True ∧ True := by
  w_top off
  first
    | (walk1; done)
    | exact ⟨trivial, trivial⟩
section
set_option maxRecDepth 100000
set_option maxHeartbeats 8000000
section
variable {w : World} {A : Around} {E : Value → Shared → Prop} {s : Shared} {mean : ExcName → Option Value} {mg mb : Str → Option Value}

theorem ifmt_A {mode : Int} {t : Tok} {Q : Value → Shared → Prop} (X : (hd.heap_39 w.params).In s.heap) (T : Top hd.view_39 (looseW hd.view_39 [Str.ofString "_filemode_table"]) mean mg mb s.heap)
    (hdp : A.depth < recursionLimit) (hQ : ∀ h' tk t', Kp s.heap h' → Q (.int (Builtin.bitAnd mode 61440) t') { s with heap := h', toks := tk }) :
    wpAny (model PySem.Challenge.rw_pg0089_02.row.prog w) A (call (.ref 28) [.int mode t]) Q E s := by
  revert X; k_fill; intro X
  refine' callA (binds := [(Str.ofString "mode", .int mode t)]) X T hdp ?ho ?hcd ?hb ?hl ?hc ?c1 ?c2 ?c3 ?_
  case ho => k_dflt k_is
  case hcd => k_dflt k_is
  case hb => rfl
  case hl => exact locs rfl
  case hc => decide
  case c1 => rfl
  case c2 => rfl
  case c3 => rfl
  intro h₁ F N X' T'
  k_steps
  exact hQ _ _ _ (Fr.keep (by assumption))
theorem imode_A {mode : Int} {t : Tok} {Q : Value → Shared → Prop} (X : (hd.heap_39 w.params).In s.heap) (T : Top hd.view_39 (looseW hd.view_39 [Str.ofString "_filemode_table"]) mean mg mb s.heap)
    (hdp : A.depth < recursionLimit) (hQ : ∀ h' tk t', Kp s.heap h' → Q (.int (Builtin.bitAnd mode 4095) t') { s with heap := h', toks := tk }) :
    wpAny (model PySem.Challenge.rw_pg0089_02.row.prog w) A (call (.ref 21) [.int mode t]) Q E s := by
  revert X; k_fill; intro X
  refine' callA (binds := [(Str.ofString "mode", .int mode t)]) X T hdp ?ho ?hcd ?hb ?hl ?hc ?c1 ?c2 ?c3 ?_
  case ho => k_dflt k_is
  case hcd => k_dflt k_is
  case hb => rfl
  case hl => exact locs rfl
  case hc => decide
  case c1 => rfl
  case c2 => rfl
  case c3 => rfl
  intro h₁ F N X' T'
  k_steps
  exact hQ _ _ _ (Fr.keep (by assumption))

def tabItems : Array Value := #[.ref 36, .ref 38, .ref 40, .ref 44, .ref 46, .ref 48, .ref 52, .ref 54, .ref 56, .ref 60]
def EntryAt (h : Heap) (v : Value) (e : Nat × Nat) : Prop := ∃ b tb tc, v = .ref b ∧ h.IsTuple b #[.int (e.1 : Int) tb, .str (one e.2) tc]
theorem tab_facts {h : Heap} (X : (hd.heap_39 w.params).In h) : ∀ i : Nat, i < 10 → ∃ a its, tabItems[i]? = some (.ref a) ∧ h.IsTuple a its ∧ its.size = (es i).length ∧
    ∀ (j : Nat) e, (es i)[j]? = some e → ∃ v, its[j]? = some v ∧ EntryAt h v e := by
  intro i hi
  have tup : ∀ a o its, (hd.heap_39 w.params).lookup a = some o → o.cls = .type "tuple" → o.data = .seq its → h.IsTuple a its := fun a o its e c d => ⟨o, X _ _ e, c, _, d⟩
  have seven : ∀ {its : Array Value} {l : List (Nat × Nat)}, its.size = l.length → (∀ (j : Nat) v e, its[j]? = some v → l[j]? = some e → EntryAt h v e) → ∀ (j : Nat) e, l[j]? = some e → ∃ v, its[j]? = some v ∧ EntryAt h v e := by
    intro its l hz hf j e he
    have hj : j < its.size := by rw [hz]; exact (List.getElem?_eq_some_iff.mp he).1
    exact ⟨its[j], by simp [hj], hf j _ e (by simp [hj]) he⟩
  match i, hi with
  | 0, _ =>
    refine ⟨36, _, rfl, tup 36 _ _ rfl rfl rfl, rfl, seven rfl fun j v e hv he => ?_⟩
    match j, hv, he with
    | 0, hv, he => cases hv; cases he; exact ⟨_, _, _, rfl, tup 29 _ _ rfl rfl rfl⟩
    | 1, hv, he => cases hv; cases he; exact ⟨_, _, _, rfl, tup 30 _ _ rfl rfl rfl⟩
    | 2, hv, he => cases hv; cases he; exact ⟨_, _, _, rfl, tup 31 _ _ rfl rfl rfl⟩
    | 3, hv, he => cases hv; cases he; exact ⟨_, _, _, rfl, tup 32 _ _ rfl rfl rfl⟩
    | 4, hv, he => cases hv; cases he; exact ⟨_, _, _, rfl, tup 33 _ _ rfl rfl rfl⟩
    | 5, hv, he => cases hv; cases he; exact ⟨_, _, _, rfl, tup 34 _ _ rfl rfl rfl⟩
    | 6, hv, he => cases hv; cases he; exact ⟨_, _, _, rfl, tup 35 _ _ rfl rfl rfl⟩
    | n + 7, hv, he => cases he
  | 1, _ =>
    refine ⟨38, _, rfl, tup 38 _ _ rfl rfl rfl, rfl, seven rfl fun j v e hv he => ?_⟩
    match j, hv, he with
    | 0, hv, he => cases hv; cases he; exact ⟨_, _, _, rfl, tup 37 _ _ rfl rfl rfl⟩
    | n + 1, hv, he => cases he
  | 2, _ =>
    refine ⟨40, _, rfl, tup 40 _ _ rfl rfl rfl, rfl, seven rfl fun j v e hv he => ?_⟩
    match j, hv, he with
    | 0, hv, he => cases hv; cases he; exact ⟨_, _, _, rfl, tup 39 _ _ rfl rfl rfl⟩
    | n + 1, hv, he => cases he
  | 3, _ =>
    refine ⟨44, _, rfl, tup 44 _ _ rfl rfl rfl, rfl, seven rfl fun j v e hv he => ?_⟩
    match j, hv, he with
    | 0, hv, he => cases hv; cases he; exact ⟨_, _, _, rfl, tup 41 _ _ rfl rfl rfl⟩
    | 1, hv, he => cases hv; cases he; exact ⟨_, _, _, rfl, tup 42 _ _ rfl rfl rfl⟩
    | 2, hv, he => cases hv; cases he; exact ⟨_, _, _, rfl, tup 43 _ _ rfl rfl rfl⟩
    | n + 3, hv, he => cases he
  | 4, _ =>
    refine ⟨46, _, rfl, tup 46 _ _ rfl rfl rfl, rfl, seven rfl fun j v e hv he => ?_⟩
    match j, hv, he with
    | 0, hv, he => cases hv; cases he; exact ⟨_, _, _, rfl, tup 45 _ _ rfl rfl rfl⟩
    | n + 1, hv, he => cases he
  | 5, _ =>
    refine ⟨48, _, rfl, tup 48 _ _ rfl rfl rfl, rfl, seven rfl fun j v e hv he => ?_⟩
    match j, hv, he with
    | 0, hv, he => cases hv; cases he; exact ⟨_, _, _, rfl, tup 47 _ _ rfl rfl rfl⟩
    | n + 1, hv, he => cases he
  | 6, _ =>
    refine ⟨52, _, rfl, tup 52 _ _ rfl rfl rfl, rfl, seven rfl fun j v e hv he => ?_⟩
    match j, hv, he with
    | 0, hv, he => cases hv; cases he; exact ⟨_, _, _, rfl, tup 49 _ _ rfl rfl rfl⟩
    | 1, hv, he => cases hv; cases he; exact ⟨_, _, _, rfl, tup 50 _ _ rfl rfl rfl⟩
    | 2, hv, he => cases hv; cases he; exact ⟨_, _, _, rfl, tup 51 _ _ rfl rfl rfl⟩
    | n + 3, hv, he => cases he
  | 7, _ =>
    refine ⟨54, _, rfl, tup 54 _ _ rfl rfl rfl, rfl, seven rfl fun j v e hv he => ?_⟩
    match j, hv, he with
    | 0, hv, he => cases hv; cases he; exact ⟨_, _, _, rfl, tup 53 _ _ rfl rfl rfl⟩
    | n + 1, hv, he => cases he
  | 8, _ =>
    refine ⟨56, _, rfl, tup 56 _ _ rfl rfl rfl, rfl, seven rfl fun j v e hv he => ?_⟩
    match j, hv, he with
    | 0, hv, he => cases hv; cases he; exact ⟨_, _, _, rfl, tup 55 _ _ rfl rfl rfl⟩
    | n + 1, hv, he => cases he
  | 9, _ =>
    refine ⟨60, _, rfl, tup 60 _ _ rfl rfl rfl, rfl, seven rfl fun j v e hv he => ?_⟩
    match j, hv, he with
    | 0, hv, he => cases hv; cases he; exact ⟨_, _, _, rfl, tup 57 _ _ rfl rfl rfl⟩
    | 1, hv, he => cases hv; cases he; exact ⟨_, _, _, rfl, tup 58 _ _ rfl rfl rfl⟩
    | 2, hv, he => cases hv; cases he; exact ⟨_, _, _, rfl, tup 59 _ _ rfl rfl rfl⟩
    | n + 3, hv, he => cases he
  | n + 10, h => omega
end
end
/-! FMb -/
theorem fresh_FMb : True ∧ True := by
  w_top off
  first
    | (walk1; done)
    | exact ⟨trivial, trivial⟩
section
set_option maxRecDepth 100000
set_option maxHeartbeats 8000000
section
variable {w : World} {A : Around} {E : Value → Shared → Prop} {s : Shared} {mean : ExcName → Option Value} {mg mb : Str → Option Value}

local macro_rules | `(tactic| walk_at "eval Name") => `(tactic| (k_here; (first | (with_reducible show wpAny _ _ (eval (Expr.Name _ _) (envOf _ _ _ _ _)) _ _ _) | (with_reducible show wpAny _ _ (eval (Expr.Name _ _) (envOfC _ _ _ _ _)) _ _ _)); k_dflt (refine' ld ?k1 ?k2 ?_; (case k1 => k_asm); (case k2 => (first | exact rfl | with_unfolding_all assumption)); k_whole)))
local macro_rules | `(tactic| walk_at "call ref") => `(tactic| (k_here; (with_reducible show wpAny _ _ (call (Value.ref 28) [Value.int _ _]) _ _ _); (refine' ifmt_A (Frag.In.keeps (by k_asm) (Fr.keep (by k_asm))) (Top.keeps (by k_asm) (Fr.keep (by k_asm))) ?r ?_; (case r => (simp only [Around.deeper]; omega)); intro h' tk' t' k'; (have F' := fr_kp (by k_asm) k'); (have N' := news_kp (by k_asm) k'); (try k_sweep))))

def enumO (it : Addr) (i : Int) (old : Value) : Obj := { cls := .type "enumerate", data := .fields #[.none, .bool false, .ref it, rawInt i, .none, old] }
def FmJ (s : Shared) (e it P : Addr) (n : Nat) (t : Tok) (i : Nat) (s' : Shared) : Prop :=
  ∃ h tk m old o2 vs nP, s' = { s with heap := h, toks := tk } ∧ Fr s.heap s.heap.objs.size h m ∧
      News s.heap s.heap.objs.size h [(e, enumO it i old), (it, o2), (P, W.listOf vs.toArray nP)] ∧
      o2.cls = .type "tuple_iterator" ∧ o2.data = .fields #[.ref 61, .int i 0] ∧ StrsAre vs (((codes n).take i).map one) ∧ vs.length = i ∧
      m (Str.ofString "perm") = some (.ref P) ∧ m (Str.ofString "mode") = some (.int (n : Int) t)
def FmJ2 (s : Shared) (I2 e it P a : Addr) (n : Nat) (t : Tok) (i : Nat) (tx : Tok) (old : Value) (o6 : Obj) (vs : List Value) (nP : Nat) (j : Nat) (s' : Shared) : Prop :=
  ∃ h tk m o3, s' = { s with heap := h, toks := tk } ∧ Fr s.heap s.heap.objs.size h m ∧
        News s.heap s.heap.objs.size h [(I2, o3), (e, enumO it ((i : Int) + 1) old), (it, o6), (P, W.listOf vs.toArray nP)] ∧
        o3.cls = .type "tuple_iterator" ∧ o3.data = .fields #[.ref a, .int j 0] ∧ pickFrom i n (es i) = pickFrom i n ((es i).drop j) ∧
        m (Str.ofString "perm") = some (.ref P) ∧ m (Str.ofString "mode") = some (.int (n : Int) t) ∧ m (Str.ofString "index") = some (.int (i : Int) tx)
theorem test_zero {i n b : Nat} (hi : (i : Int) = 0) : test i n b = decide (Builtin.bitAnd (n : Int) 61440 = (b : Int)) := by
  obtain rfl : i = 0 := by omega
  have e : (61440 : Int) = ((61440 : Nat) : Int) := rfl
  rw [e, bitAnd_nat]
  simp only [test, if_true, Int.natCast_inj]
  exact (Bool.beq_eq_decide_eq _ _)
theorem test_pos {i n b : Nat} (hi : (i : Int) ≠ 0) : test i n b = decide (Builtin.bitAnd (n : Int) (b : Int) = (b : Int)) := by
  rw [bitAnd_nat]
  simp only [test, if_neg (show ¬ i = 0 by omega), Int.natCast_inj]
  exact (Bool.beq_eq_decide_eq _ _)
theorem pick_hit {i n : Nat} {en : Nat × Nat} {r : List (Nat × Nat)} (h : test i n en.1 = true) : pickFrom i n (en :: r) = en.2 := by simp [pickFrom, h]
theorem pick_miss {i n : Nat} {en : Nat × Nat} {r : List (Nat × Nat)} (h : test i n en.1 = false) : pickFrom i n (en :: r) = pickFrom i n r := by simp [pickFrom, h]
theorem strs_snoc {vs : List Value} {ys : List Str} (h : StrsAre vs ys) (y : Str) (t : Tok) : StrsAre (vs ++ [.str y t]) (ys ++ [y]) := by
  induction h with
  | nil => exact .cons y t .nil
  | cons z u _ ih => exact .cons z u ih
theorem FmJ.next {e it P : Addr} {n : Nat} {t : Tok} {i : Nat} {h : Heap} {tk : Nat} {m : Str → Option Value} {old : Value} {o6 : Obj} {vs : List Value} {nP c : Nat} {tc : Tok} {news : List (Addr × Obj)} (hi : i < 10)
    (F : Fr s.heap s.heap.objs.size h m) (N : News s.heap s.heap.objs.size h news) (hs : ∀ p ∈ [(e, enumO it ((i : Int) + 1) old), (it, o6), (P, W.listOf (vs.toArray.push (.str (one c) tc)) nP)], p ∈ news)
    (hc6 : o6.cls = .type "tuple_iterator") (hd6 : o6.data = .fields #[.ref 61, .int ((i + 1 : Nat) : Int) 0]) (hvs : StrsAre vs (((codes n).take i).map one)) (hlen : vs.length = i) (hc : c = codeAt n i)
    (hp : m (Str.ofString "perm") = some (.ref P)) (hm : m (Str.ofString "mode") = some (.int (n : Int) t)) : FmJ s e it P n t (i + 1) { s with heap := h, toks := tk } := by
  refine ⟨h, tk, m, old, o6, vs ++ [.str (one c) tc], nP, rfl, F, ?_, hc6, hd6, ?_, by simp [hlen], hp, hm⟩
  · rw [← List.push_toArray]
    exact news_sub N (by simpa using hs)
  · rw [codes_take hi, List.map_append, hc]
    exact strs_snoc hvs _ _

theorem filemode_A {n : Nat} {t : Tok} {Q : Value → Shared → Prop} (X : (hd.heap_39 w.params).In s.heap) (T : Top hd.view_39 (looseW hd.view_39 [Str.ofString "_filemode_table"]) mean mg mb s.heap)
    (hdp : A.depth + 2 < recursionLimit) (hh : A.handled = none) (hn : n < 65536)
    (hQ : ∀ h' tk t', Kp s.heap h' → Q (.str (Txt.join (Str.ofString "") ((codes n).map one)) t') { s with heap := h', toks := tk }) :
    wpAny (model PySem.Challenge.rw_pg0089_02.row.prog w) A (call (.ref 68) [.int (n : Int) t]) Q E s := by
  revert X; k_fill; intro X
  refine' callA (binds := [(Str.ofString "mode", .int (n : Int) t)]) X T (Nat.lt_of_le_of_lt (Nat.le_add_right _ _) hdp) ?ho ?hcd ?hb ?hl ?hc ?c1 ?c2 ?c3 ?_
  case ho => k_dflt k_is
  case hcd => k_dflt k_is
  case hb => rfl
  case hl => exact locs rfl
  case hc => decide
  case c1 => rfl
  case c2 => rfl
  case c3 => rfl
  intro h₁ F N X' T'
  k_steps
  rename_i tk1 P h2 lt1 h3 F3 N3
  refine forA ?_
  k_steps
  have htab : h3.IsTuple 61 tabItems := ⟨_, F3.keep _ _ (X' 61 _ rfl), rfl, _, rfl⟩
  have hTL : 61 < s.heap.objs.size := Heap.lt_size (X' 61 _ rfl)
  have hL3 := fr_lt F3
  have hP3 := news_lt N3 _ (List.mem_cons_self ..)
  refine call_enum_tuple (s := ⟨h3, _, _, _, _⟩) htab fun h4 he4 hi4 hz4 hk4 => ?_
  dsimp only at he4 hi4 hz4 hk4 hP3 ⊢
  have F4 := fr_kp F3 hk4
  have N4 := news_kp N3 hk4
  have hfe := fresh_none F3 (Nat.le_succ h3.objs.size)
  have hfi := fresh_none F3 (Nat.le_refl h3.objs.size)
  obtain ⟨o4, ho4, hc4, hd4⟩ := hi4
  k_steps
  refine wpAny_pyIter_enum he4 ?_
  generalize hE : h3.objs.size + 1 = e at *
  generalize hI : h3.objs.size = it at *
  have hfe' : s.heap.get? e = none := by rw [← hE]; exact hfe
  clear F3 N3
  refine forA_inv 10 (FmJ s e it P n t) ?_ ?_ 10 0 _ rfl (Nat.zero_le _) ?_
  · rintro i s' hi ⟨h, tk, m, old, o2, vs, nP, rfl, F5, N5, hc2, hd2, hvs, hlen, hp, hm⟩
    have hit5 : h.IsTupleIter it 61 i ∧ h.IsTuple 61 tabItems := ⟨⟨o2, N5.get (.tail _ (.head _)), hc2, hd2⟩, ⟨_, F5.keep _ _ (X' 61 _ rfl), rfl, _, rfl⟩⟩
    have hTi : 61 ≠ it := by omega
    have hei : e ≠ it := by omega
    have hef : e ∉ [it, 61] := nin2 (by omega) (by omega)
    refine enum_turn (fp := [it, 61]) (n := 10) (P := fun i v => tabItems[i]? = some v) (St := fun i h => h.IsTupleIter it 61 i ∧ h.IsTuple 61 tabItems) hh (Draws_tuple (by exact hh) it 61 hTi tabItems) (N5.get (.head _)) hit5 hi hei hef fun x tx h6 tk6 hx he6 hi6 hk6 => ?_
    obtain ⟨old', he6⟩ := he6
    obtain ⟨⟨o6, ho6, hc6, hd6⟩, _⟩ := hi6
    have F6 := fr_but F5 hk6 (nin2 (by omega) (by omega)) (all2 hfe' hfi)
    have NP := news_but (news_tl (news_tl N5)) hk6 (by
      intro p hp
      rcases List.mem_cons.mp hp with rfl | hp
      · exact nin2 (by omega) (by omega)
      · cases hp)
    have N6 : News s.heap s.heap.objs.size h6 [(e, enumO it ((i : Int) + 1) old'), (it, o6), (P, W.listOf vs.toArray nP)] := news_cons he6 (by omega) hfe' (news_cons ho6 (by omega) hfi NP)
    obtain ⟨a, its, hai, hta, hsz, hent⟩ := tab_facts X' i hi
    obtain rfl : Value.ref a = x := by
      have hx' : tabItems[i]? = some x := hx
      rw [hai] at hx'; exact Option.some.inj hx'
    clear F4 N4 F5 N5 NP
    k_steps
    rename_i h7 F7 N7
    refine forA ?_
    k_steps
    have hta7 : h7.IsTuple a its := hta.at fun o q => F7.keep _ _ q
    have hL7 := fr_lt F7
    have hz7 := news_lt N7
    have heB : e < h7.objs.size := hz7 _ (.head _)
    have hiB : it < h7.objs.size := hz7 _ (.tail _ (.head _))
    have hPB : @LT.lt Nat _ P h7.objs.size := hz7 _ (.tail _ (.tail _ (.head _)))
    have hf7 := fresh_none F7 (Nat.le_refl _)
    refine wpAny_pyIter_tuple (s := ⟨h7, _, _, _, _⟩) hta7 ?_
    clear hz7
    have N8 := News.push F7 N7 { cls := .type "tuple_iterator", data := .fields #[.ref a, .int 0 0] } rfl
    have F8 := F7.push { cls := .type "tuple_iterator", data := .fields #[.ref a, .int 0 0] }
    dsimp only at N8 ⊢
    generalize h7.push { cls := .type "tuple_iterator", data := .fields #[.ref a, .int 0 0] } = h8 at N8 F8 ⊢
    clear N7 F7
    generalize h7.objs.size = I2 at *
    refine forA_inv (es i).length (FmJ2 s I2 e it P a n t i tx old' o6 vs nP) ?_ ?_ _ 0 _ rfl (Nat.zero_le _) ?_
    · rintro j s' hj ⟨h, tk, m, o3, rfl, F9, N9, hc3, hd3, hpk, hp, hm, hix⟩
      have hge := List.getElem?_eq_getElem hj
      generalize hen : (es i)[j] = en at hge
      obtain ⟨v, hv, b, tb, tc, rfl, htb⟩ := hent j en hge
      have hdr : (es i).drop j = en :: (es i).drop (j + 1) := by rw [← hen]; exact List.drop_eq_getElem_cons hj
      rw [hdr] at hpk
      have hI9 : h.IsTupleIter I2 a j := ⟨o3, N9.get (.head _), hc3, hd3⟩
      have ha9 : h.IsTuple a its := hta.at fun o q => F9.keep _ _ q
      have hb9 : h.IsTuple b _ := htb.at fun o q => F9.keep _ _ q
      refine wpAny_pyNext_tuple_item (s := ⟨h, _, _, _, _⟩) hI9 ha9 hv fun h10 hI10 hs10 => ⟨_, rfl, ?_⟩
      refine go_tupleIter (s := ⟨h10, _, _, _, _⟩) hI10 ?_
      replace hs10 : Heap.SameBut I2 h h10 := hs10
      have hbI : b ≠ I2 := by
        rintro rfl
        obtain ⟨ob, hob, _⟩ := htb
        rw [hf7] at hob; cases hob
      refine assign_pair (s := ⟨h10, _, _, _, _⟩) hh (hb9.extBut hs10.extBut hbI) fun h11 hk11 => ?_
      obtain ⟨o10, ho10, hc10, hd10⟩ := hI10
      have F11 := fr_kp (fr_but F9 (same_but hs10) (nin1 (by omega)) (all1 hf7)) hk11
      have N11 := news_cons (hk11 _ _ ho10) (show @Ne Nat I2 s.heap.objs.size by omega) hf7 (news_kp (news_but (news_tl N9) (same_but hs10) (by
        intro p hp
        rcases List.mem_cons.mp hp with rfl | hp
        · exact nin1 (by omega)
        rcases List.mem_cons.mp hp with rfl | hp
        · exact nin1 (by omega)
        rcases List.mem_cons.mp hp with rfl | hp
        · exact nin1 (by omega)
        · cases hp)) hk11)
      clear F9 N9 F8 N8
      dsimp only
      k_steps
      · rename_i hi0 _ _ _ _ _ hb h' F' N'
        dsimp only [Ret]
        refine wpAny_execs_nil ?_
        refine FmJ.next hi F' N' (List.subset_cons_self _ _) hc6 hd6 hvs hlen ?_ (by with_unfolding_all exact hp) (by with_unfolding_all exact hm)
        rw [← pick_eq hn hi, hpk, pick_hit (by rw [test_zero hi0]; exact decide_eq_true hb)]
      · rename_i hi0 _ _ _ _ F' N' hb
        exact ⟨_, _, _, o10, rfl, F', N', hc10, hd10, hpk.trans (pick_miss (by rw [test_zero hi0]; exact decide_eq_false hb)), by with_unfolding_all exact hp, by with_unfolding_all exact hm, by with_unfolding_all exact hix⟩
      · rename_i hi0 _ hb _ h' F' N'
        dsimp only [Ret]
        refine wpAny_execs_nil ?_
        refine FmJ.next hi F' N' (List.subset_cons_self _ _) hc6 hd6 hvs hlen ?_ (by with_unfolding_all exact hp) (by with_unfolding_all exact hm)
        rw [← pick_eq hn hi, hpk, pick_hit (by rw [test_pos hi0]; exact decide_eq_true hb)]
      · rename_i F' N' _ hi0 _ hb
        exact ⟨_, _, _, o10, rfl, F', N', hc10, hd10, hpk.trans (pick_miss (by rw [test_pos hi0]; exact decide_eq_false hb)), by with_unfolding_all exact hp, by with_unfolding_all exact hm, by with_unfolding_all exact hix⟩
    · rintro s' ⟨h, tk, m, o3, rfl, F9, N9, hc3, hd3, hpk, hp, hm, hix⟩
      rw [List.drop_length] at hpk
      have hI9 : h.IsTupleIter I2 a (es i).length := ⟨o3, N9.get (.head _), hc3, hd3⟩
      have ha9 : h.IsTuple a its := hta.at fun o q => F9.keep _ _ q
      refine wpAny_pyNext_tuple_end (s := ⟨h, _, _, _, _⟩) hh hI9 ha9 (by rw [← hsz]; simp) fun h10 hx10 => ⟨rfl, ?_⟩
      have F10 := fr_but F9 (ext_but hx10) (nin1 (by omega)) (all1 hf7)
      have N10 := news_but (news_tl N9) (ext_but hx10) (by
        intro p hp
        rcases List.mem_cons.mp hp with rfl | hp
        · exact nin1 (by omega)
        rcases List.mem_cons.mp hp with rfl | hp
        · exact nin1 (by omega)
        rcases List.mem_cons.mp hp with rfl | hp
        · exact nin1 (by omega)
        · cases hp)
      clear F9 N9 F8 N8
      dsimp only
      k_steps
      · rename_i hi0 _ h' F' N'
        dsimp only [Ret]
        refine wpAny_execs_nil ?_
        rw [show Str.ofString "?" = one 63 from by decide +kernel] at N'
        refine FmJ.next hi F' N' (fun _ q => q) hc6 hd6 hvs hlen ?_ hp hm
        rw [← pick_eq hn hi, hpk]
        simp only [pickFrom, if_pos (show i = 0 by omega)]
      · rename_i hi0 _ h' F' N'
        dsimp only [Ret]
        refine wpAny_execs_nil ?_
        rw [show Str.ofString "-" = one 45 from by decide +kernel] at N'
        refine FmJ.next hi F' N' (fun _ q => q) hc6 hd6 hvs hlen ?_ hp hm
        rw [← pick_eq hn hi, hpk]
        simp only [pickFrom, if_neg (show ¬ i = 0 by omega)]
    · exact ⟨_, _, _, _, rfl, F8, N8, rfl, rfl, rfl, by with_unfolding_all exact hp, by with_unfolding_all exact hm, by with_unfolding_all rfl⟩
  · rintro s' ⟨h, tk, m, old, o2, vs, nP, rfl, F5, N5, hc2, hd2, hvs, hlen, hp, hm⟩
    have hit5 : h.IsTupleIter it 61 10 ∧ h.IsTuple 61 tabItems := ⟨⟨o2, N5.get (.tail _ (.head _)), hc2, hd2⟩, ⟨_, F5.keep _ _ (X' 61 _ rfl), rfl, _, rfl⟩⟩
    have hTi : 61 ≠ it := by omega
    refine enum_done (fp := [it, 61]) (n := 10) (P := fun i v => tabItems[i]? = some v) (St := fun i h => h.IsTupleIter it 61 i ∧ h.IsTuple 61 tabItems) (Draws_tuple (by exact hh) it 61 hTi tabItems) (N5.get (.head _)) hit5 fun h6 hk6 => ?_
    have F6 := fr_but F5 hk6 (nin2 (by omega) (by omega)) (all2 hfe' hfi)
    have NP := news_but (news_tl (news_tl N5)) hk6 (by
      intro p hp
      rcases List.mem_cons.mp hp with rfl | hp
      · exact nin2 (by omega) (by omega)
      · cases hp)
    clear F4 N4 F5 N5
    refine wpAny_execs_nil ?_
    dsimp only [Ret]
    k_steps
    have hlist : h6.IsList P vs.toArray := ⟨_, NP.get (.head _), rfl, _, rfl⟩
    rw [List.take_of_length_le (by rw [codes_length]; exact Nat.le_refl _)] at hvs
    refine join_listW (s := ⟨h6, _, _, _, _⟩) hlist (by simpa using hvs) (by decide) ?_ fun t' k => ?_
    · have e : ((codes n).map one).map (·.length) = (codes n).map fun _ => 1 := by rw [List.map_map]; rfl
      rw [e, List.map_const', List.sum_replicate_nat, codes_length, List.length_map, codes_length]
      decide
    k_steps
    exact hQ _ _ _ F6.keep
  · refine ⟨_, _, _, _, o4, [], 0, rfl, F4, news_cons he4 (by omega) hfe' (news_cons ho4 (by omega) hfi N4), hc4, hd4, .nil, rfl, by with_unfolding_all rfl, by with_unfolding_all rfl⟩
end
end
/-! Loops3 -/
section
set_option maxRecDepth 100000
set_option maxHeartbeats 4000000
/-- a mark at which the walker halts -/
def Stop (P : Prop) : Prop := P
def rangeO (x left step : Int) : Obj := { cls := .type "range_iterator", dict := none, data := .fields #[rawInt x, rawInt left, rawInt step], slots := #[] }
def listItO (l : Addr) (i : Nat) (o : Obj) : Prop := o.cls = .type "list_iterator" ∧ o.data = .fields #[.ref l, .int i 0]
def Off (I : Addr) (rest : List (Addr × Obj)) : Prop := ∀ b ∈ rest.map Prod.fst, @Ne Nat b I
theorem Off.nin {I : Addr} {rest : List (Addr × Obj)} (h : Off I rest) : ∀ p ∈ rest, p.1 ∉ [I] := fun p hp => nin1 (h _ (List.mem_map.mpr ⟨p, hp, rfl⟩))
section
variable {prog : Program} {w : World} {A : Around} {E : Value → Shared → Prop} {env : Env} {R : Result → Shared → Prop} {s : Shared}
theorem execs_stop {M : Model} {st rest} {Q : Flow → Shared → Prop}
    (h : wpAny M A (exec st env) (fun f s' => match f with | .next => Stop (wpAny M A (execs rest env) Q E s') | f => Q f s') E s) :
    wpAny M A (execs (st :: rest) env) Q E s := wpAny_execs_cons h
theorem nextC_stop {M : Model} {st rest} {Q : Flow → Shared → Prop}
    (h : wpAny M A (exec st env) (fun f s' => match f with | .next => Stop (wpC M A (execs rest env) Q E s') | f => Q f s') E s) :
    wpC M A (execs (st :: rest) env) Q E s := wpC_next h
theorem wpAny_stop {α : Type} {M : Model} {t : Sem α} {Q : α → Shared → Prop} (h : wpAny M A t (fun a s' => Stop (Q a s')) E s) : wpAny M A t Q E s := h

theorem range_enter {h₀ : Heap} {L r : Addr} {m : Str → Option Value} {rest : List (Addr × Obj)} {a b c : Int} {t u v : Tok} {Q : Value → Shared → Prop} (hr : IsRange s.heap r a b c t u v) (hs : Builtin.Range.small a b c = true) (n : Int) (hn : Builtin.Range.rangeSize a b c = n)
    (F : Fr h₀ L s.heap m) (N : News h₀ L s.heap rest)
    (h : ∀ I h', Fr h₀ L h' m → News h₀ L h' ((I, rangeO a n c) :: rest) → Off I rest → Q (.ref I) { s with heap := h' }) :
    wpAny (model prog w) A (pyIter (.ref r)) Q E s := by
  refine wpAny_pyIter_range hr hs (h _ _ (F.push _) (by rw [hn]; exact News.push F N _ rfl) fun b hb => ?_)
  obtain ⟨p, hp, rfl⟩ := List.mem_map.mp hb
  exact Nat.ne_of_lt (news_lt N p hp)
theorem list_enter {h₀ : Heap} {L l : Addr} {m : Str → Option Value} {rest : List (Addr × Obj)} {items : Array Value} {Q : Value → Shared → Prop} (hl : s.heap.IsList l items)
    (F : Fr h₀ L s.heap m) (N : News h₀ L s.heap rest)
    (h : ∀ I h' o, Fr h₀ L h' m → News h₀ L h' ((I, o) :: rest) → listItO l 0 o → Off I rest → h'.IsList l items → @Ne Nat l I → Q (.ref I) { s with heap := h' }) :
    wpAny (model prog w) A (pyIter (.ref l)) Q E s := by
  obtain ⟨ol, hol, hx⟩ := hl
  refine wpAny_pyIter_list ⟨ol, hol, hx⟩ (h _ _ _ (F.push _) (News.push F N _ rfl) ⟨rfl, rfl⟩ (fun b hb => ?_) ⟨ol, Heap.get?_push_of_some _ hol, hx⟩ (Nat.ne_of_lt (Heap.lt_size hol)))
  obtain ⟨p, hp, rfl⟩ := List.mem_map.mp hb
  exact Nat.ne_of_lt (news_lt N p hp)
theorem range_turn {h₀ : Heap} {L I : Addr} {m : Str → Option Value} {rest : List (Addr × Obj)} {a left step : Int} {x : Str} {px : Pos} {Q : Unit → Shared → Prop}
    (F : Fr h₀ L s.heap m) (N : News h₀ L s.heap ((I, rangeO a left step) :: rest)) (hne : Off I rest) (hleft : 0 < left)
    (h : ∀ h', Fr h₀ L h' m → News h₀ L h' ((I, rangeO (a + step) (left - 1) step) :: rest) → wpAny (model prog w) A (assign (.Name x px) env (.int a s.toks)) Q NoE { s with heap := h', toks := s.toks + 1 }) :
    wpAny (model prog w) A (pyNext (.ref I)) (fun r s₁ => ∃ v, r = some v ∧ wpAny (model prog w) A (letOwnedTupleGo (.Name x px) (.ref I) v) (fun _ s₁' =>
      wpAny (model prog w) A (assign (.Name x px) env v) Q NoE s₁') NoE s₁) NoE s := by
  obtain ⟨hI, hIL, hI0⟩ := N _ (.head _)
  refine wpAny_pyNext_range_item hI hleft fun h' hi' hs' => ⟨_, rfl, go_name ?_⟩
  exact h h' (fr_but F (same_but hs') (nin1 (Ne.symm hIL)) (all1 hI0)) (news_cons hi' hIL hI0 (news_but (news_tl N) (same_but hs') hne.nin))
theorem range_done {h₀ : Heap} {L I : Addr} {m : Str → Option Value} {rest : List (Addr × Obj)} {a left step : Int} {Q : Shared → Prop} (hh : A.handled = none)
    (F : Fr h₀ L s.heap m) (N : News h₀ L s.heap ((I, rangeO a left step) :: rest)) (hne : Off I rest) (hleft : left ≤ 0)
    (h : ∀ h', Fr h₀ L h' m → News h₀ L h' rest → Q { s with heap := h' }) :
    wpAny (model prog w) A (pyNext (.ref I)) (fun r s₁ => r = none ∧ Q s₁) NoE s := by
  obtain ⟨hI, hIL, hI0⟩ := N _ (.head _)
  refine wpAny_pyNext_range_end hh hI hleft fun h' hx => ⟨rfl, ?_⟩
  exact h h' (fr_but F (ext_but hx) (nin1 (Ne.symm hIL)) (all1 hI0)) (news_but (news_tl N) (ext_but hx) hne.nin)
theorem list_turn {h₀ : Heap} {L I l : Addr} {m : Str → Option Value} {rest : List (Addr × Obj)} {o : Obj} {i : Nat} {items : Array Value} {v : Value} {x : Str} {px : Pos} {Q : Unit → Shared → Prop}
    (F : Fr h₀ L s.heap m) (N : News h₀ L s.heap ((I, o) :: rest)) (ho : listItO l i o) (hl : s.heap.IsList l items) (hv : items[i]? = some v) (hne : Off I rest)
    (h : ∀ h' o', Fr h₀ L h' m → News h₀ L h' ((I, o') :: rest) → listItO l (i + 1) o' → wpAny (model prog w) A (assign (.Name x px) env v) Q NoE { s with heap := h' }) :
    wpAny (model prog w) A (pyNext (.ref I)) (fun r s₁ => ∃ v, r = some v ∧ wpAny (model prog w) A (letOwnedTupleGo (.Name x px) (.ref I) v) (fun _ s₁' =>
      wpAny (model prog w) A (assign (.Name x px) env v) Q NoE s₁') NoE s₁) NoE s := by
  obtain ⟨hI, hIL, hI0⟩ := N _ (.head _)
  refine wpAny_pyNext_list_item ⟨o, hI, ho.1, ho.2⟩ hl hv fun h' hi' hs' => ⟨_, rfl, go_name ?_⟩
  obtain ⟨o', ho', hc', hd'⟩ := hi'
  exact h h' o' (fr_but F (same_but hs') (nin1 (Ne.symm hIL)) (all1 hI0)) (news_cons ho' hIL hI0 (news_but (news_tl N) (same_but hs') hne.nin)) ⟨hc', hd'⟩
theorem list_done {h₀ : Heap} {L I l : Addr} {m : Str → Option Value} {rest : List (Addr × Obj)} {o : Obj} {i : Nat} {items : Array Value} {Q : Shared → Prop} (hh : A.handled = none)
    (F : Fr h₀ L s.heap m) (N : News h₀ L s.heap ((I, o) :: rest)) (ho : listItO l i o) (hl : s.heap.IsList l items) (hi : items[i]? = none) (hne : Off I rest)
    (h : ∀ h', Fr h₀ L h' m → News h₀ L h' rest → Q { s with heap := h' }) :
    wpAny (model prog w) A (pyNext (.ref I)) (fun r s₁ => r = none ∧ Q s₁) NoE s := by
  obtain ⟨hI, hIL, hI0⟩ := N _ (.head _)
  refine wpAny_pyNext_list_end hh ⟨o, hI, ho.1, ho.2⟩ hl hi fun h' hx => ⟨rfl, ?_⟩
  exact h h' (fr_but F (ext_but hx) (nin1 (Ne.symm hIL)) (all1 hI0)) (news_but (news_tl N) (ext_but hx) hne.nin)
end
end
/-! Arith -/
section
set_option maxRecDepth 100000
set_option maxHeartbeats 4000000
section
variable {prog : Program} {w : World} {A : Around} {E : Value → Shared → Prop} {s : Shared} {Q : Value → Shared → Prop} {a n c : Int} {t u : Tok}
theorem rshift_c (hn : 0 ≤ n) (hc : c = a.fdiv (2 ^ n.toNat)) (h : Q (.int c s.toks) { s with toks := s.toks + 1 }) : wpAny (model prog w) A (binaryOp .RShift (.int a t) (.int n u)) Q E s := rshift_int hn (hc ▸ h)
theorem floordiv_c {b : Int} (hb : b ≠ 0) (hc : c = a.fdiv b) (hp : Builtin.divisionGoesByPylong a b = false) (h : Q (.int c s.toks) { s with toks := s.toks + 1 }) : wpAny (model prog w) A (binaryOp .FloorDiv (.int a t) (.int b u)) Q E s :=
  floordiv_int hb (hc ▸ h) (Or.inl hp)
theorem mod_c {b : Int} (hb : b ≠ 0) (hc : c = a.fmod b) (h : Q (.int c s.toks) { s with toks := s.toks + 1 }) : wpAny (model prog w) A (binaryOp .Mod (.int a t) (.int b u)) Q E s := mod_int' hb (hc ▸ h)
end
/-- the same tree, written otherwise: one look of the kernel in place of the unifier's -/
theorem wp_as {α : Type} {M : Model} {A : Around} {t t' : Sem α} {Q : α → Shared → Prop} {E : Value → Shared → Prop} {s : Shared} (e : t = t') (h : wpAny M A t' Q E s) : wpAny M A t Q E s := e ▸ h
theorem wpC_as {α : Type} {M : Model} {A : Around} {t t' : Sem α} {Q : α → Shared → Prop} {E : Value → Shared → Prop} {s : Shared} (e : t = t') (h : wpC M A t' Q E s) : wpC M A t Q E s := e ▸ h
/-- the end under a name: a walk's proof writes it at every step -/
theorem qfree {α : Type} {M : Model} {A : Around} {t : Sem α} {P : α → Shared → Prop} {E : Value → Shared → Prop} {s : Shared} (h : ∀ Q : α → Shared → Prop, (∀ f s', P f s' → Q f s') → wpAny M A t Q E s) : wpAny M A t P E s := h P fun _ _ x => x
theorem qfree2 {α β : Type} {M : Model} {A : Around} {t : Sem α} {u : Sem β} {P : β → Shared → Prop} {E : Value → Shared → Prop} {s : Shared} (h : ∀ Q : β → Shared → Prop, (∀ f s', P f s' → Q f s') → wpAny M A t (fun _ s₂ => wpAny M A u Q E s₂) E s) : wpAny M A t (fun _ s₂ => wpAny M A u P E s₂) E s := h P fun _ _ x => x
end
/-! Mac -/
local macro_rules | `(tactic| walk_at "eval Name") => `(tactic| (k_here; (first | (with_reducible show wpAny _ _ (eval (Expr.Name _ _) (envOf _ _ _ _ _)) _ _ _) | (with_reducible show wpAny _ _ (eval (Expr.Name _ _) (envOfC _ _ _ _ _)) _ _ _)); k_dflt (refine' ld ?k1 ?k2 ?_; (case k1 => k_asm); (case k2 => (first | exact rfl | with_unfolding_all assumption)); k_whole)))
local macro_rules | `(tactic| walk_at "loadName") => `(tactic| (k_here; (first | (with_reducible show wpAny _ _ (loadName (envOf _ _ _ _ _) _) _ _ _) | (with_reducible show wpAny _ _ (loadName (envOfC _ _ _ _ _) _) _ _ _)); k_dflt (refine' ldn ?k1 ?k2 ?_; (case k1 => k_asm); (case k2 => (first | exact rfl | with_unfolding_all assumption)); k_whole)))
local macro_rules | `(tactic| walk_at "binaryOp RShift int int") => `(tactic| (k_here; (refine' rshift_c ?ra ?rb ?_; (case ra => decide); (case rb => (simp only [Int.reduceFDiv, Int.reduceToNat, Int.reducePow]; rfl)))))
local macro_rules | `(tactic| walk_at "binaryOp FloorDiv int int") => `(tactic| (k_here; (refine' floordiv_c ?ra ?rb ?rc ?_; (case ra => decide); (case rb => (simp only [Int.reduceFDiv]; rfl)); (case rc => exact PyProof.noPylong_small (by decide)))))
local macro_rules | `(tactic| walk_at "binaryOp Mod int int") => `(tactic| (k_here; (refine' mod_c ?ra ?rb ?_; (case ra => decide); (case rb => (simp only [Int.reduceFMod]; rfl)))))
/-! LT -/
theorem fresh_LT : True ∧ True := by
  w_top off
  first
    | (walk1; done)
    | exact ⟨trivial, trivial⟩
section
set_option maxRecDepth 100000
set_option maxHeartbeats 8000000
section
variable {w : World} {A : Around} {E : Value → Shared → Prop} {s : Shared} {mean : ExcName → Option Value} {mg mb : Str → Option Value}


theorem fm_nat (n x : Nat) : ((n : Int).fdiv (x : Int)).fmod 2 = ((n / x % 2 : Nat) : Int) := by
  rw [Int.fdiv_eq_ediv_of_nonneg _ (Int.natCast_nonneg x), Int.fmod_eq_emod_of_nonneg _ (by decide)]; norm_cast
theorem fm_yes {n x : Nat} {z : Int} (hz : z = (x : Int)) (h : ((n : Int).fdiv z).fmod 2 = 1) : n / x % 2 = 1 := by
  rw [hz, fm_nat] at h; exact Int.ofNat_inj.mp h
theorem fm_no {n x : Nat} {z : Int} (hz : z = (x : Int)) (h : ((n : Int).fdiv z).fmod 2 ≠ 1) : ¬ n / x % 2 = 1 := by
  rw [hz, fm_nat] at h; exact fun q => h (by rw [q]; rfl)
theorem item_two {p : Str} {a b : Nat} {z : Int} {n x : Nat} (hz : z = (x : Int)) (hp : p = ⟨#[a, b]⟩) : Txt.item p (((n : Int).fdiv z).fmod 2) = one (if n / x % 2 = 1 then b else a) := by
  rw [hz, fm_nat]
  have h : n / x % 2 = 0 ∨ n / x % 2 = 1 := by omega
  subst hp
  rcases h with h | h <;> rw [h] <;> rfl
theorem text_fits (n i : Nat) (p : Str) (z : Int) : (⟨((codes n).take i).toArray⟩ : Str).length + (Txt.item p z).length ≤ sizeLine := by
  have e : (⟨((codes n).take i).toArray⟩ : Str).length = ((codes n).take i).length := by simp [Str.length]
  have q : (Txt.item p z).length = 1 := rfl
  rw [e, q, List.length_take, codes_length, PySem.sizeLine_eq]
  omega
theorem text_more {n i c : Nat} (hi : i + 1 < 10) (hc : c = signAt n i) : (⟨((codes n).take (i + 1)).toArray⟩ : Str) ++ one c = ⟨((codes n).take (i + 1 + 1)).toArray⟩ := by
  rw [codes_take hi, hc]
  show Str.mk _ = _
  simp [codeAt, one]
theorem kind_item : ∀ x : Nat, x < 16 → Txt.item (Str.ofString "?pc?d?b?-?l?s???") (x : Int) = one (kinds.getD x 63) := by decide +kernel
theorem text_start {n : Nat} {z : Int} (hz : z = ((4096 : Nat) : Int)) (hn : n < 65536) : Txt.item (Str.ofString "?pc?d?b?-?l?s???") ((n : Int).fdiv z) = ⟨((codes n).take (0 + 1)).toArray⟩ := by
  rw [hz, Int.fdiv_eq_ediv_of_nonneg _ (Int.natCast_nonneg _), ← Int.natCast_ediv, kind_item _ (by omega)]
  rfl
def LtJ (s : Shared) (I : Addr) (n : Nat) (t : Tok) (i : Nat) (s' : Shared) : Prop :=
  ∃ h tk m t', s' = { s with heap := h, toks := tk } ∧ Fr s.heap s.heap.objs.size h m ∧ News s.heap s.heap.objs.size h [(I, rangeO i (9 - i) 1)] ∧
      m (Str.ofString "text") = some (.str ⟨((codes n).take (i + 1)).toArray⟩ t') ∧ m (Str.ofString "mode") = some (.int (n : Int) t)
theorem stop_iadd {P : Prop} (h : Stop P) : P := h
local macro_rules | `(tactic| walk_at "inplaceOp Add str str") => `(tactic| (k_here; (refine stop_iadd ?_)))
theorem lawtext_A {n : Nat} {t : Tok} {Q : Value → Shared → Prop} (X : (hd.heap_39 w.params).In s.heap) (T : Top hd.view_39 (looseW hd.view_39 [Str.ofString "_filemode_table"]) mean mg mb s.heap)
    (hdp : A.depth + 2 < recursionLimit) (hh : A.handled = none) (hn : n < 65536)
    (hQ : ∀ h' tk t', Kp s.heap h' → Q (.str ⟨(codes n).toArray⟩ t') { s with heap := h', toks := tk }) :
    wpAny (model PySem.Challenge.rw_pg0089_02.row.prog w) A (call (.ref 82) [.int (n : Int) t]) Q E s := by
  revert X; k_fill; intro X
  refine' callA (binds := [(Str.ofString "mode", .int (n : Int) t)]) X T (Nat.lt_of_le_of_lt (Nat.le_add_right _ _) hdp) ?ho ?hcd ?hb ?hl ?hc ?c1 ?c2 ?c3 ?_
  case ho => k_dflt k_is
  case hcd => k_dflt k_is
  case hb => rfl
  case hl => exact locs rfl
  case hc => decide
  case c1 => rfl
  case c2 => rfl
  case c3 => rfl
  intro h₁ F N X' T'
  refine execs_stop ?_
  k_steps
  rename_i F2 N2
  dsimp only at F2 N2
  unfold Stop
  refine wpAny_execs_cons ?_
  refine forA ?_
  k_steps
  rename_i h3 tk3 t1 t2 t3 hr F3 N3 k3
  dsimp only at hr F3 N3
  refine range_enter (s := ⟨h3, _, _, _, _⟩) hr (by decide +kernel) 9 (by decide +kernel) F3 N3 fun I h4 F4 N4 off => ?_
  dsimp only
  clear F3 N3
  refine forA_inv 9 (LtJ s I n t) ?_ ?_ 9 0 _ rfl (Nat.zero_le _) ?_
  · rintro i s' hi ⟨h, tk, m, t', rfl, F5, N5, htx, hm⟩
    refine range_turn (s := ⟨h, _, _, _, _⟩) F5 N5 off (by omega) fun h6 F6 N6 => ?_
    clear F4 N4 F5 N5
    dsimp only
    refine qfree2 fun Q' hQ' => ?_
    rcases (show i = 0 ∨ i = 1 ∨ i = 2 ∨ i = 3 ∨ i = 4 ∨ i = 5 ∨ i = 6 ∨ i = 7 ∨ i = 8 by omega) with rfl | rfl | rfl | rfl | rfl | rfl | rfl | rfl | rfl
    · rw [show ((0 : Nat) : Int) = 0 from rfl] at *
      k_steps
      unfold Stop
      refine iadd_str (fun t7 tk7 => ?_) (text_fits n 1 _ _)
      dsimp only
      k_steps
      rename_i F' N'
      refine hQ' _ _ ?_
      refine ⟨_, _, _, _, rfl, F', news_sub N' (by simp), (congrArg (fun z => some (Value.str z t7)) (show _ ++ _ = _ from ?_)), by with_unfolding_all exact hm⟩
      rw [item_two (z := 256) (x := 256) (a := 45) (b := 114) rfl (by decide +kernel)]
      refine text_more (by decide) ?_
      simp [signAt]
    · rw [show ((1 : Nat) : Int) = 1 from rfl] at *
      k_steps
      unfold Stop
      refine iadd_str (fun t7 tk7 => ?_) (text_fits n 2 _ _)
      dsimp only
      k_steps
      rename_i F' N'
      refine hQ' _ _ ?_
      refine ⟨_, _, _, _, rfl, F', news_sub N' (by simp), (congrArg (fun z => some (Value.str z t7)) (show _ ++ _ = _ from ?_)), by with_unfolding_all exact hm⟩
      rw [item_two (z := 128) (x := 128) (a := 45) (b := 119) rfl (by decide +kernel)]
      refine text_more (by decide) ?_
      simp [signAt]
    · rw [show ((2 : Nat) : Int) = 2 from rfl] at *
      refine wpAny_stop ?_
      k_steps
      unfold Stop
      refine execs_stop ?_
      k_steps
      unfold Stop
      refine execs_stop (wpAny_If (wpAny_stop ?_))
      k_steps
      · rename_i hb
        unfold Stop
        rw [if_pos rfl]
        refine execs_stop ?_
        dsimp only at *
        k_steps
        unfold Stop
        refine wpAny_execs_nil ?_
        dsimp only at *
        k_steps
        replace hb : n / 2048 % 2 = 1 := fm_yes (z := 2048) rfl hb
        unfold Stop
        refine iadd_str (fun t7 tk7 => ?_) (text_fits n 3 _ _)
        dsimp only
        k_steps
        rename_i F' N'
        refine hQ' _ _ ?_
        refine ⟨_, _, _, _, rfl, F', news_sub N' (by simp), (congrArg (fun z => some (Value.str z t7)) (show _ ++ _ = _ from ?_)), by with_unfolding_all exact hm⟩
        rw [item_two (z := 64) (x := 64) (a := 83) (b := 115) rfl (by decide +kernel)]
        refine text_more (by decide) ?_
        simp [signAt, hb]
      · rename_i hb
        unfold Stop
        rw [if_neg (by decide)]
        refine wpAny_execs_nil ?_
        dsimp only at *
        k_steps
        replace hb : ¬ n / 2048 % 2 = 1 := fm_no (z := 2048) rfl hb
        unfold Stop
        refine iadd_str (fun t7 tk7 => ?_) (text_fits n 3 _ _)
        dsimp only
        k_steps
        rename_i F' N'
        refine hQ' _ _ ?_
        refine ⟨_, _, _, _, rfl, F', news_sub N' (by simp), (congrArg (fun z => some (Value.str z t7)) (show _ ++ _ = _ from ?_)), by with_unfolding_all exact hm⟩
        rw [item_two (z := 64) (x := 64) (a := 45) (b := 120) rfl (by decide +kernel)]
        refine text_more (by decide) ?_
        simp [signAt, hb]
    · rw [show ((3 : Nat) : Int) = 3 from rfl] at *
      k_steps
      unfold Stop
      refine iadd_str (fun t7 tk7 => ?_) (text_fits n 4 _ _)
      dsimp only
      k_steps
      rename_i F' N'
      refine hQ' _ _ ?_
      refine ⟨_, _, _, _, rfl, F', news_sub N' (by simp), (congrArg (fun z => some (Value.str z t7)) (show _ ++ _ = _ from ?_)), by with_unfolding_all exact hm⟩
      rw [item_two (z := 32) (x := 32) (a := 45) (b := 114) rfl (by decide +kernel)]
      refine text_more (by decide) ?_
      simp [signAt]
    · rw [show ((4 : Nat) : Int) = 4 from rfl] at *
      k_steps
      unfold Stop
      refine iadd_str (fun t7 tk7 => ?_) (text_fits n 5 _ _)
      dsimp only
      k_steps
      rename_i F' N'
      refine hQ' _ _ ?_
      refine ⟨_, _, _, _, rfl, F', news_sub N' (by simp), (congrArg (fun z => some (Value.str z t7)) (show _ ++ _ = _ from ?_)), by with_unfolding_all exact hm⟩
      rw [item_two (z := 16) (x := 16) (a := 45) (b := 119) rfl (by decide +kernel)]
      refine text_more (by decide) ?_
      simp [signAt]
    · rw [show ((5 : Nat) : Int) = 5 from rfl] at *
      refine wpAny_stop ?_
      k_steps
      unfold Stop
      refine execs_stop ?_
      k_steps
      unfold Stop
      refine execs_stop (wpAny_If (wpAny_stop ?_))
      k_steps
      · rename_i hb
        unfold Stop
        rw [if_pos rfl]
        refine execs_stop ?_
        dsimp only at *
        k_steps
        unfold Stop
        refine wpAny_execs_nil ?_
        dsimp only at *
        k_steps
        replace hb : n / 1024 % 2 = 1 := fm_yes (z := 1024) rfl hb
        unfold Stop
        refine iadd_str (fun t7 tk7 => ?_) (text_fits n 6 _ _)
        dsimp only
        k_steps
        rename_i F' N'
        refine hQ' _ _ ?_
        refine ⟨_, _, _, _, rfl, F', news_sub N' (by simp), (congrArg (fun z => some (Value.str z t7)) (show _ ++ _ = _ from ?_)), by with_unfolding_all exact hm⟩
        rw [item_two (z := 8) (x := 8) (a := 83) (b := 115) rfl (by decide +kernel)]
        refine text_more (by decide) ?_
        simp [signAt, hb]
      · rename_i hb
        unfold Stop
        rw [if_neg (by decide)]
        refine wpAny_execs_nil ?_
        dsimp only at *
        k_steps
        replace hb : ¬ n / 1024 % 2 = 1 := fm_no (z := 1024) rfl hb
        unfold Stop
        refine iadd_str (fun t7 tk7 => ?_) (text_fits n 6 _ _)
        dsimp only
        k_steps
        rename_i F' N'
        refine hQ' _ _ ?_
        refine ⟨_, _, _, _, rfl, F', news_sub N' (by simp), (congrArg (fun z => some (Value.str z t7)) (show _ ++ _ = _ from ?_)), by with_unfolding_all exact hm⟩
        rw [item_two (z := 8) (x := 8) (a := 45) (b := 120) rfl (by decide +kernel)]
        refine text_more (by decide) ?_
        simp [signAt, hb]
    · rw [show ((6 : Nat) : Int) = 6 from rfl] at *
      k_steps
      unfold Stop
      refine iadd_str (fun t7 tk7 => ?_) (text_fits n 7 _ _)
      dsimp only
      k_steps
      rename_i F' N'
      refine hQ' _ _ ?_
      refine ⟨_, _, _, _, rfl, F', news_sub N' (by simp), (congrArg (fun z => some (Value.str z t7)) (show _ ++ _ = _ from ?_)), by with_unfolding_all exact hm⟩
      rw [item_two (z := 4) (x := 4) (a := 45) (b := 114) rfl (by decide +kernel)]
      refine text_more (by decide) ?_
      simp [signAt]
    · rw [show ((7 : Nat) : Int) = 7 from rfl] at *
      k_steps
      unfold Stop
      refine iadd_str (fun t7 tk7 => ?_) (text_fits n 8 _ _)
      dsimp only
      k_steps
      rename_i F' N'
      refine hQ' _ _ ?_
      refine ⟨_, _, _, _, rfl, F', news_sub N' (by simp), (congrArg (fun z => some (Value.str z t7)) (show _ ++ _ = _ from ?_)), by with_unfolding_all exact hm⟩
      rw [item_two (z := 2) (x := 2) (a := 45) (b := 119) rfl (by decide +kernel)]
      refine text_more (by decide) ?_
      simp [signAt]
    · rw [show ((8 : Nat) : Int) = 8 from rfl] at *
      refine wpAny_stop ?_
      k_steps
      unfold Stop
      refine execs_stop ?_
      k_steps
      unfold Stop
      refine execs_stop (wpAny_If (wpAny_stop ?_))
      k_steps
      · rename_i hb
        unfold Stop
        rw [if_pos rfl]
        refine execs_stop ?_
        dsimp only at *
        k_steps
        unfold Stop
        refine wpAny_execs_nil ?_
        dsimp only at *
        k_steps
        replace hb : n / 512 % 2 = 1 := fm_yes (z := 512) rfl hb
        unfold Stop
        refine iadd_str (fun t7 tk7 => ?_) (text_fits n 9 _ _)
        dsimp only
        k_steps
        rename_i F' N'
        refine hQ' _ _ ?_
        refine ⟨_, _, _, _, rfl, F', news_sub N' (by simp), (congrArg (fun z => some (Value.str z t7)) (show _ ++ _ = _ from ?_)), by with_unfolding_all exact hm⟩
        rw [item_two (z := 1) (x := 1) (a := 84) (b := 116) rfl (by decide +kernel)]
        refine text_more (by decide) ?_
        simp [signAt, hb]
      · rename_i hb
        unfold Stop
        rw [if_neg (by decide)]
        refine wpAny_execs_nil ?_
        dsimp only at *
        k_steps
        replace hb : ¬ n / 512 % 2 = 1 := fm_no (z := 512) rfl hb
        unfold Stop
        refine iadd_str (fun t7 tk7 => ?_) (text_fits n 9 _ _)
        dsimp only
        k_steps
        rename_i F' N'
        refine hQ' _ _ ?_
        refine ⟨_, _, _, _, rfl, F', news_sub N' (by simp), (congrArg (fun z => some (Value.str z t7)) (show _ ++ _ = _ from ?_)), by with_unfolding_all exact hm⟩
        rw [item_two (z := 1) (x := 1) (a := 45) (b := 120) rfl (by decide +kernel)]
        refine text_more (by decide) ?_
        simp [signAt, hb]
  · rintro s' ⟨h, tk, m, t', rfl, F5, N5, htx, hm⟩
    refine range_done (s := ⟨h, _, _, _, _⟩) hh F5 N5 off (by omega) fun h6 F6 N6 => ?_
    clear F4 N4 F5 N5
    refine wpAny_execs_nil ?_
    dsimp only [Ret]
    rw [show List.take (9 + 1) (codes n) = codes n from List.take_of_length_le (by rw [codes_length]; exact Nat.le_refl _)] at htx
    k_steps
    exact hQ _ _ _ F6.keep
  · rw [text_start (z := 4096) rfl hn] at F4
    exact ⟨_, _, _, _, rfl, F4, N4, by with_unfolding_all rfl, by with_unfolding_all rfl⟩
end
end
/-! CallC -/
section
set_option maxRecDepth 100000
set_option maxHeartbeats 4000000
section
variable {M : Model} {A : Around} {E : Value → Shared → Prop} {s : Shared} {env : Env}
theorem wpC_keep {α : Type} {vs : List Value} {t : Sem α} {Q : α → Shared → Prop} (h : wpC M A t Q E s) : wpC M A (t.keep vs) Q E s := fun Γ p hΓ hc => by
  rw [Sem.wp_keep]; exact h Γ p hΓ hc
theorem splC_nil {Q : List Value → Shared → Prop} (h : Q [] s) : wpC M A (spliced []) Q E s := wpC_pure h
theorem splC_cons {x : Sem Value} {rest : List (Bool × Sem Value)} {Q : List Value → Shared → Prop}
    (h : wpC M A x (fun v s₁ => wpC M A (spliced rest) (fun vs s₂ => Q (v :: vs) s₂) E s₁) E s) : wpC M A (spliced ((false, x) :: rest)) Q E s := by
  rw [spliced]
  refine wpC_bind (wpC_mono h (fun v s₁ h₁ => ?_) fun _ _ x => x)
  simp only [Bool.false_eq_true, if_false]
  exact wpC_bind (wpC_pure (wpC_bind (wpC_holding (wpC_mono h₁ (fun vs s₂ h₂ => wpC_pure h₂) fun _ _ x => x))))
theorem argsC {f : Value} {x : Sem Value} {rest : List (Bool × Sem Value)} {Q : Args → Shared → Prop}
    (h : wpC M A (spliced ((false, x) :: rest)) (fun vs s' => Q ⟨vs, []⟩ s') E s) : wpC M A (evalArgs f true ((false, x) :: rest) []) Q E s := by
  unfold evalArgs
  show wpC M A (spliced ((false, x) :: rest) >>= _) Q E s
  refine wpC_bind (wpC_mono h (fun vs s' h' => ?_) fun _ _ x => x)
  refine wpC_holding ?_
  exact wpC_bind (wpC_pure (wpC_bind (wpC_pure (wpC_pure h'))))
theorem tailC {t : Sem Value} {Q : Value → Shared → Prop} (ht : wpC M A t Q E s) : wpC M A (t >>= fun r => holding [r] point >>= fun _ => pure r) Q E s :=
  wpC_bind (wpC_mono ht (fun r s₂ hr => wpC_bind (wpC_holding (wpC_of_any (wpAny_point (wpC_pure hr))))) fun _ _ x => x)
theorem withC_type {pos : Pos} {T : String} {args : List (Bool × Sem Value)} {Q : Value → Shared → Prop} (hplain : args.any (·.1) = false)
    (h : wpC M A (evalArgs (.type T) true args []) (fun a s₁ => wpC M A (call (.type T) ([] ++ a.pos) a.kw) Q E s₁) E s) :
    wpC M A (callWith pos (.type T) [] args []) Q E s := by
  unfold callWith
  refine wpC_bind (wpC_holding (wpC_mono h (fun a s₁ h₁ => wpC_bind (wpC_of_any (wpAny_standAt ?_))) fun _ _ x => x))
  simp only [hplain, List.any_nil, Bool.or_false]
  exact wpC_bind (wpC_pure (tailC h₁))
theorem withC_fn {pos : Pos} {a : Addr} {o : Obj} {fd : FuncData} {args : List (Bool × Sem Value)} {Q : Value → Shared → Prop} (hplain : args.any (·.1) = false) (hd : o.data = .func fd)
    (h : wpC M A (evalArgs (.ref a) true args []) (fun x s₁ => s₁.heap.get? a = some o ∧ wpC M A (call (.ref a) ([] ++ x.pos) x.kw) Q E s₁) E s) :
    wpC M A (callWith pos (.ref a) [] args []) Q E s := by
  unfold callWith
  refine wpC_bind (wpC_holding (wpC_mono h (fun x s₁ h₁ => wpC_bind (wpC_of_any (wpAny_standAt ?_))) fun _ _ x => x))
  simp only [hplain, List.any_nil, Bool.or_false]
  refine wpC_bind (m := keeperOf (.ref a)) (wpC_of_any ?_)
  unfold keeperOf
  refine wpAny_bind (wpAny_load h₁.1 ?_)
  rw [hd]
  refine wpAny_pure ?_
  dsimp only
  split
  · exact tailC h₁.2
  · exact tailC (by unfold callMarked; exact wpC_keep h₁.2)
theorem Call_C {func : Expr} {args : List Expr} {pos : Pos} {Q : Value → Shared → Prop}
    (h : wpAny M A (eval func env) (fun f s₁ => wpC M A (callWith pos f [] (backTo pos (starEach args env)) []) Q E s₁) E s)
    (he : eval (.Call func args [] pos) env = (do callWith pos (← eval func env) [] (backTo pos (starEach args env)) (backToKw pos (keywordEach [] env))) := by rfl) :
    wpC M A (eval (.Call func args [] pos) env) Q E s := by
  rw [he]; exact wpC_seq h
/-- one argument, two arguments: each in the clean logic -/
theorem typeC1 {pos : Pos} {T : String} {e : Expr} {Q : Value → Shared → Prop} (he : backTo pos (starEach [e] env) = [(false, eval e env)])
    (h : wpC M A (eval e env) (fun v s₁ => wpC M A (call (.type T) [v]) Q E s₁) E s) : wpC M A (callWith pos (.type T) [] (backTo pos (starEach [e] env)) []) Q E s := by
  rw [he]; exact withC_type rfl (argsC (splC_cons (wpC_mono h (fun _ _ q => splC_nil q) fun _ _ x => x)))
theorem fnC2 {pos : Pos} {a : Addr} {o : Obj} {fd : FuncData} {e e' : Expr} {Q : Value → Shared → Prop} (hd : o.data = .func fd) (he : backTo pos (starEach [e, e'] env) = [(false, eval e env), (false, eval e' env)])
    (h : wpC M A (eval e env) (fun v s₁ => wpC M A (eval e' env) (fun v' s₂ => s₂.heap.get? a = some o ∧ wpC M A (call (.ref a) [v, v']) Q E s₂) E s₁) E s) : wpC M A (callWith pos (.ref a) [] (backTo pos (starEach [e, e'] env)) []) Q E s := by
  rw [he]; exact withC_fn rfl hd (argsC (splC_cons (wpC_mono h (fun _ _ q => splC_cons (wpC_mono q (fun _ _ q => splC_nil q) fun _ _ x => x)) fun _ _ x => x)))
end
end
/-! Swap -/
section
set_option maxRecDepth 100000
set_option maxHeartbeats 4000000
theorem size_chunks {k width : Nat} (hw : 0 < width) : Builtin.Range.rangeSize 0 ((k * width : Nat) : Int) (width : Int) = (k : Int) := by
  rw [rangeSize_pos (by omega) (by omega)]
  have e : ((k * width : Nat) : Int) + (width : Int) - 1 = ((k * width + (width - 1) : Nat) : Int) := by omega
  rw [e, ← Int.natCast_ediv, Nat.mul_comm, Nat.mul_add_div hw, Nat.div_eq_of_lt (by omega)]
  rfl
theorem small_chunks {k width : Nat} (hw : 0 < width) (hz : k * width ≤ 4096) (hz' : width ≤ 4096) : Builtin.Range.small 0 ((k * width : Nat) : Int) (width : Int) = true := by
  unfold Builtin.Range.small
  rw [size_chunks hw]
  have hk : k ≤ 4096 := Nat.le_trans (Nat.le_mul_of_pos_right k hw) hz
  simp only [Builtin.Range.rangeFitsLong, Bool.and_eq_true, Bool.or_eq_true, decide_eq_true_eq, beq_iff_eq, show ((width : Int)) > 0 by omega, if_true]
  generalize k * width = m at hz
  omega
def swAt (data : Array UInt8) (width p : Nat) : UInt8 := data.getD (p / width * width + (width - 1 - p % width)) 0
def swp (data : Array UInt8) (width : Nat) : Array UInt8 := (Array.range data.size).map (swAt data width)
def Part (data b : Array UInt8) (width q j : Nat) : Prop := b.size = data.size ∧ (∀ p, p < q * width → b.getD p 0 = swAt data width p) ∧ ∀ p, q * width + (width - j) ≤ p → p < q * width + width → b.getD p 0 = swAt data width p
theorem part_done {data b : Array UInt8} {width q : Nat} (h : Part data b width q width) : Part data b width (q + 1) 0 := by
  obtain ⟨h1, h2, h3⟩ := h
  refine ⟨h1, fun p hp => ?_, fun p hp hp' => by omega⟩
  rw [Nat.add_mul, Nat.one_mul] at hp
  by_cases hq : p < q * width
  · exact h2 p hq
  · exact h3 p (by omega) hp
theorem part_end {data b : Array UInt8} {width k : Nat} (h : Part data b width k 0) (hk : data.size = k * width) : b = swp data width := by
  obtain ⟨h1, h2, _⟩ := h
  apply Array.ext
  · rw [h1, swp, Array.size_map, Array.size_range]
  intro i hi hi'
  have := h2 i (by omega)
  have e : (swp data width)[i] = swAt data width i := by simp [swp]
  rw [e, ← this]
  simp [Array.getD, hi]
theorem part_step {data b : Array UInt8} {width q j k : Nat} (h : Part data b width q j) (hq : q < k) (hj : j < width) (hk : data.size = k * width) :
    Part data (b.setIfInBounds (q * width + (width - 1 - j)) (data.getD (q * width + j) 0)) width q (j + 1) := by
  obtain ⟨h1, h2, h3⟩ := h
  have hin : q * width + width ≤ b.size := by
    rw [h1, hk]
    calc q * width + width = (q + 1) * width := by rw [Nat.add_mul, Nat.one_mul]
      _ ≤ k * width := Nat.mul_le_mul_right _ hq
  have get : ∀ p, (b.setIfInBounds (q * width + (width - 1 - j)) (data.getD (q * width + j) 0)).getD p 0 = if q * width + (width - 1 - j) = p then data.getD (q * width + j) 0 else b.getD p 0 := by
    intro p
    simp only [Array.getD_eq_getD_getElem?, Array.getElem?_setIfInBounds]
    split
    · rename_i e
      subst e
      rw [if_pos (by omega)]; rfl
    · rfl
  refine ⟨by simp [h1], fun p hp => ?_, fun p hp hp' => ?_⟩
  · rw [get, if_neg (by omega)]; exact h2 p hp
  · rw [get]
    split
    · rename_i e
      subst e
      unfold swAt
      have hlt : width - 1 - j < width := by omega
      rw [Nat.mul_comm q width, Nat.mul_add_div (by omega), Nat.div_eq_of_lt hlt, Nat.mul_add_mod, Nat.mod_eq_of_lt hlt, Nat.add_zero, Nat.mul_comm q width]
      congr 1
      omega
    · exact h3 p (by omega) hp'
end
/-! Comp -/
section
set_option maxRecDepth 100000
set_option maxHeartbeats 4000000
theorem news_more2 {h₀ h h' : Heap} {L a : Addr} {o : Obj} {m : Str → Option Value} {news : List (Addr × Obj)} (F : Fr h₀ L h m) (N : News h₀ L h news) (k : Kp h h') (ha : h.get? a = none) (ho : h'.get? a = some o) :
    News h₀ L h' ((a, o) :: news) := by
  refine news_cons ho ?_ ?_ (news_kp N k)
  · rintro rfl
    obtain ⟨oL, _, _, hL, _⟩ := F.ns
    rw [ha] at hL; cases hL
  · cases q : h₀.get? a with
    | none => rfl
    | some o' => have := F.keep _ _ q; rw [ha] at this; cases this
section
variable {prog : Program} {w : World} {A : Around} {E : Value → Shared → Prop} {env : Env} {s₂ : Shared}
theorem quiet_nil {scope : Scope} {x : Str} {elt : Expr} {wr : List Addr} {P : Nat → Value → Prop} {G : Value → Value → Prop}
    (he : ∀ C i v s₃ m₃ E', P i v → s₃.heap.Ns C m₃ → m₃ x = some v → KpBut wr s₂.heap s₃.heap → wpAny (model prog w) A (eval elt (compEnv scope C env)) (fun y s₄ => G v y ∧ Keeps s₃ s₄) E' s₃) :
    QuietOn prog w A env scope x [] elt wr P (fun _ => true) G s₂ where
  tests := fun _ _ _ s₃ _ _ _ _ _ _ _ => wpAny_pure ⟨rfl, s₃.heap, s₃.toks, rfl, fun _ _ e => e⟩
  elt := fun C i v s₃ m₃ E' hp _ hn hm hk _ => he C i v s₃ m₃ E' hp hn hm hk
theorem ints_length {vs : List Value} {ns : List Int} (h : IntsAre vs ns) : vs.length = ns.length := by
  induction h with
  | nil => rfl
  | cons _ _ _ ih => simp [ih]
end
end
/-! Comp2 -/
section
set_option maxRecDepth 100000
set_option maxHeartbeats 4000000
def held (c : Nat) : Bool := !(c == 45 || c == 83 || c == 84)
theorem any_held (c : Nat) : (([45, 83, 84] : List Int).any fun x => x == (c : Int)) = !held c := by
  have e : ∀ k : Nat, ((k : Int) == (c : Int)) = (c == k) := fun k => by
    rw [Bool.eq_iff_iff]; simp only [beq_iff_eq]; omega
  simp only [List.any_cons, List.any_nil, Bool.or_false, held, Bool.not_not]
  have := e 45; have := e 83; have := e 84
  simp_all [Bool.or_assoc]
section
variable {prog : Program} {w : World} {A : Around} {E : Value → Shared → Prop} {env : Env}
end
end
/-! Defs -/
section
set_option maxRecDepth 100000
set_option maxHeartbeats 4000000
def worthTo (b : Array UInt8) (start : Nat) : Nat → Nat
  | 0 => 0
  | i + 1 => worthTo b start i + (if held (b.getD i 0).toNat then 256 / 2 ^ (start + i) else 0)
theorem worth_yes {b : Array UInt8} {start i : Nat} {c : UInt8} (hc : b[i]? = some c) (h : held c.toNat = true) : (worthTo b start (i + 1) : Int) = (worthTo b start i : Int) + ((256 / 2 ^ (start + i) : Nat) : Int) := by
  have e : b.getD i 0 = c := by simp [Array.getD_eq_getD_getElem?, hc]
  simp only [worthTo, e, h, if_true]; norm_cast
theorem worth_no {b : Array UInt8} {start i : Nat} {c : UInt8} (hc : b[i]? = some c) (h : held c.toNat = false) : worthTo b start (i + 1) = worthTo b start i := by
  have e : b.getD i 0 = c := by simp [Array.getD_eq_getD_getElem?, hc]
  simp [worthTo, e, h]
end
/-! LW -/
theorem fresh_LW : True ∧ True := by
  w_top off
  first
    | (walk1; done)
    | exact ⟨trivial, trivial⟩
section
set_option maxRecDepth 100000
set_option maxHeartbeats 4000000
section
variable {w : World} {A : Around} {E : Value → Shared → Prop} {s : Shared} {mean : ExcName → Option Value} {mg mb : Str → Option Value}
theorem rshift_w {prog : Program} {x y : Nat} {t u : Tok} {Q : Value → Shared → Prop} (h : Q (.int ((256 / 2 ^ (x + y) : Nat) : Int) s.toks) { s with toks := s.toks + 1 }) :
    wpAny (model prog w) A (binaryOp .RShift (.int 256 t) (.int ((x : Int) + (y : Int)) u)) Q E s := by
  refine rshift_c (by omega) ?_ h
  rw [show ((x : Int) + (y : Int)).toNat = x + y by omega, Int.fdiv_eq_ediv_of_nonneg _ (by exact Int.le_of_lt (Int.pow_pos (by decide)))]
  norm_cast
local macro_rules | `(tactic| walk_at "binaryOp RShift int int") => `(tactic| (k_here; (refine' rshift_w ?_)))

def LwJ (s : Shared) (e it : Addr) (b : Array UInt8) (t : Tok) (start : Nat) (ts : Tok) (i : Nat) (s' : Shared) : Prop :=
  ∃ h tk m old o2 tw, s' = { s with heap := h, toks := tk } ∧ Fr s.heap s.heap.objs.size h m ∧ News s.heap s.heap.objs.size h [(e, enumO it i old), (it, o2)] ∧
      o2.cls = .type "bytes_iterator" ∧ o2.data = .fields #[.bytes b t, .int i 0] ∧
      m (Str.ofString "worth") = some (.int (worthTo b start i : Nat) tw) ∧ m (Str.ofString "start") = some (.int (start : Int) ts)
theorem lawworth_A {b : Array UInt8} {t ts : Tok} {start : Nat} {Q : Value → Shared → Prop} (X : (hd.heap_39 w.params).In s.heap) (T : Top hd.view_39 (looseW hd.view_39 [Str.ofString "_filemode_table"]) mean mg mb s.heap)
    (hdp : A.depth + 2 < recursionLimit) (hh : A.handled = none)
    (hQ : ∀ h' tk t', Kp s.heap h' → Q (.int (worthTo b start b.size : Nat) t') { s with heap := h', toks := tk }) :
    wpAny (model PySem.Challenge.rw_pg0089_02.row.prog w) A (call (.ref 89) [.bytes b t, .int (start : Int) ts]) Q E s := by
  revert X; k_fill; intro X
  refine' callA (binds := [(Str.ofString "octets", .bytes b t), (Str.ofString "start", .int (start : Int) ts)]) X T (Nat.lt_of_le_of_lt (Nat.le_add_right _ _) hdp) ?ho ?hcd ?hb ?hl ?hc ?c1 ?c2 ?c3 ?_
  case ho => k_dflt k_is
  case hcd => k_dflt k_is
  case hb => rfl
  case hl => exact locs rfl
  case hc => decide
  case c1 => rfl
  case c2 => rfl
  case c3 => rfl
  intro h₁ F N X' T'
  refine execs_stop ?_
  k_steps
  rename_i h3 F3 N3
  dsimp only at F3 N3
  unfold Stop
  refine wpAny_execs_cons ?_
  refine forA ?_
  k_steps
  refine call_enum_bytes (s := ⟨h3, _, _, _, _⟩) fun h4 he4 hi4 hz4 hk4 => ?_
  dsimp only at he4 hi4 hz4 hk4 ⊢
  have F4 := fr_kp F3 hk4
  have hfe := fresh_none F3 (Nat.le_succ h3.objs.size)
  have hfi := fresh_none F3 (Nat.le_refl h3.objs.size)
  have hL3 := fr_lt F3
  obtain ⟨o4, ho4, hc4, hd4⟩ := hi4
  k_steps
  refine wpAny_pyIter_enum he4 ?_
  generalize hE : h3.objs.size + 1 = e at *
  generalize hI : h3.objs.size = it at *
  have hfe' : s.heap.get? e = none := by rw [← hE]; exact hfe
  clear F3 N3
  refine forA_inv b.size (LwJ s e it b t start ts) ?_ ?_ b.size 0 _ rfl (Nat.zero_le _) ?_
  · rintro i s' hi ⟨h, tk, m, old, o2, tw, rfl, F5, N5, hc2, hd2, hw, hs⟩
    have hit5 : KBw.IsBytesIter h it b t i := ⟨o2, N5.get (.tail _ (.head _)), hc2, hd2⟩
    refine enum_turn (fp := [it]) hh (Draws_bytes (by exact hh) it b t) (N5.get (.head _)) hit5 hi (show @Ne Nat e it by omega) (nin1 (by omega)) fun x tx h6 tk6 hx he6 hi6 hk6 => ?_
    obtain ⟨old', he6⟩ := he6
    obtain ⟨o6, ho6, hc6, hd6⟩ := hi6
    obtain ⟨c, u, hc, rfl⟩ := hx
    have F6 := fr_but F5 hk6 (nin2 (by omega) (by omega)) (all2 hfe' hfi)
    have N6 : News s.heap s.heap.objs.size h6 [(e, enumO it ((i : Int) + 1) old'), (it, o6)] := news_cons he6 (by omega) hfe' (news_cons ho6 (by omega) hfi News.nil)
    clear F4 F5 N5
    dsimp only
    k_steps
    · rename Fr _ _ _ _ => F'
      rename News _ _ _ _ => N'
      rename (List.any _ _ = _) => hb
      rw [any_held] at hb
      refine ⟨_, _, _, old', o6, tw, rfl, F', news_sub N' (by simp), hc6, hd6, ?_, by with_unfolding_all exact hs⟩
      rw [worth_no hc (by simpa using hb)]
      with_unfolding_all exact hw
    · rename Fr _ _ _ _ => F'
      rename News _ _ _ _ => N'
      rename (List.any _ _ = _) => hb
      rw [any_held] at hb
      refine' ⟨_, _, _, old', o6, ?tok, rfl, F', news_sub N' (by simp), hc6, hd6, ?v, by with_unfolding_all exact hs⟩
      case v =>
        rw [worth_yes hc (by simpa using hb)]
        with_unfolding_all rfl
  · rintro s' ⟨h, tk, m, old, o2, tw, rfl, F5, N5, hc2, hd2, hw, hs⟩
    have hit5 : KBw.IsBytesIter h it b t b.size := ⟨o2, N5.get (.tail _ (.head _)), hc2, hd2⟩
    refine enum_done (fp := [it]) (Draws_bytes (by exact hh) it b t) (N5.get (.head _)) hit5 fun h6 hk6 => ?_
    have F6 := fr_but F5 hk6 (nin2 (by omega) (by omega)) (all2 hfe' hfi)
    clear F4 F5 N5
    have N6 := (News.nil : News s.heap s.heap.objs.size h6 [])
    refine wpAny_execs_nil ?_
    dsimp only [Ret]
    k_steps
    exact hQ _ _ _ F6.keep
  · exact ⟨_, _, _, _, o4, _, rfl, F4, news_cons he4 (by omega) hfe' (news_cons ho4 (by omega) hfi News.nil), hc4, hd4, by with_unfolding_all rfl, by with_unfolding_all rfl⟩
end
end
/-! BS -/
theorem fresh_BS : True ∧ True := by
  w_top off
  first
    | (walk1; done)
    | exact ⟨trivial, trivial⟩
section
set_option maxRecDepth 100000
set_option maxHeartbeats 4000000
section
variable {w : World} {A : Around} {E : Value → Shared → Prop} {s : Shared} {mean : ExcName → Option Value} {mg mb : Str → Option Value}
def BsJ (s : Shared) (I S : Addr) (data : Array UInt8) (t : Tok) (width k : Nat) (tw : Tok) (q : Nat) (s' : Shared) : Prop :=
  ∃ h tk m b, s' = { s with heap := h, toks := tk } ∧ Fr s.heap s.heap.objs.size h m ∧ News s.heap s.heap.objs.size h [(I, rangeO ((q * width : Nat) : Int) ((k : Int) - q) width), (S, baObj b)] ∧
      Part data b width q 0 ∧ m (Str.ofString "data") = some (.bytes data t) ∧ m (Str.ofString "width") = some (.int (width : Int) tw) ∧ m (Str.ofString "swapped_data") = some (.ref S)
def BsJ2 (s : Shared) (I I2 S : Addr) (data : Array UInt8) (t : Tok) (width k : Nat) (tw : Tok) (q : Nat) (ti : Tok) (j : Nat) (s' : Shared) : Prop :=
  ∃ h tk m b, s' = { s with heap := h, toks := tk } ∧ Fr s.heap s.heap.objs.size h m ∧ News s.heap s.heap.objs.size h [(I2, rangeO (j : Int) ((width : Int) - j) 1), (I, rangeO (((q + 1) * width : Nat) : Int) ((k : Int) - (q + 1 : Nat)) width), (S, baObj b)] ∧
      Part data b width q j ∧ m (Str.ofString "data") = some (.bytes data t) ∧ m (Str.ofString "width") = some (.int (width : Int) tw) ∧ m (Str.ofString "swapped_data") = some (.ref S) ∧ m (Str.ofString "i") = some (.int ((q * width : Nat) : Int) ti)
theorem byteswap_C {data : Array UInt8} {t tw : Tok} {width k : Nat} {Q : Value → Shared → Prop} (X : (hd.heap_39 w.params).In s.heap) (T : Top hd.view_39 (looseW hd.view_39 [Str.ofString "_filemode_table"]) mean mg mb s.heap)
    (hdp : A.depth + 2 < recursionLimit) (hh : A.handled = none) (hg : A.guards = some []) (hw : 0 < width) (hk : data.size = k * width) (hz : data.size ≤ 4096) (hz' : width ≤ 4096)
    (hQ : ∀ h' tk t', Kp s.heap h' → Q (.bytes (swp data width) t') { s with heap := h', toks := tk }) :
    wpC (model PySem.Challenge.rw_pg0089_02.row.prog w) A (call (.ref 75) [.bytes data t, .int (width : Int) tw]) Q E s := by
  revert X; k_fill; intro X
  refine' callC (binds := [(Str.ofString "data", .bytes data t), (Str.ofString "width", .int (width : Int) tw)]) X T (Nat.lt_of_le_of_lt (Nat.le_add_right _ _) hdp) ?ho ?hcd ?hb ?hl ?hc ?c1 ?c2 ?c3 ?_
  case ho => k_dflt k_is
  case hcd => k_dflt k_is
  case hb => rfl
  case hl => exact locs rfl
  case hc => decide
  case c1 => rfl
  case c2 => rfl
  case c3 => rfl
  intro h₁ F N X' T'
  refine wpC_execs_cons (wpC_Assign_Name (Call_C ?_))
  k_steps
  refine typeC1 (by rfl) (wpC_of_any ?_)
  k_steps
  refine call_bytearray (s := ⟨_, _, _, _, _⟩) hg (by omega) (by omega) ?_
  dsimp only
  intro h2 tk2 hS hk2 hz2
  rename Fr _ _ _ _ => F
  have F2 := fr_kp F hk2
  have N2 := news_more F N hk2 (Nat.le_refl _) hS
  generalize h₁.objs.size = S at *
  clear F N
  rw [Int.toNat_natCast] at N2
  k_steps
  refine wpC_of_any ?_
  rename Fr _ _ _ _ => F3
  rename News _ _ _ _ => N3
  refine wpAny_execs_cons ?_
  refine forA ?_
  dsimp only at *
  k_steps
  rename_i h4 tk4 t1 t2 t3 hr F4 N4 k4
  dsimp only at hr F4 N4
  rw [hk] at hr
  refine range_enter (s := ⟨h4, _, _, _, _⟩) hr (small_chunks hw (by omega) hz') (k : Int) (size_chunks hw) F4 N4 fun I h5 F5 N5 off => ?_
  dsimp only
  clear F4 N4
  have hSI : @Ne Nat S I := off _ (.head _)
  refine forA_inv k (BsJ s I S data t width k tw) ?_ ?_ k 0 _ rfl (Nat.zero_le _) ?_
  · rintro q s' hq ⟨h, tk, m, b, rfl, F6, N6, hP, hda, hwi, hsw⟩
    refine range_turn (s := ⟨h, _, _, _, _⟩) F6 N6 (by exact off) (by omega) fun h7 F7 N7 => ?_
    rw [show ((q * width : Nat) : Int) + (width : Int) = (((q + 1) * width : Nat) : Int) by rw [Nat.add_mul, Nat.one_mul]; rfl, show (k : Int) - (q : Int) - 1 = (k : Int) - ((q + 1 : Nat) : Int) by omega] at N7
    clear F5 N5 F6 N6
    dsimp only
    refine wpAny_stop ?_
    k_steps
    unfold Stop
    refine wpAny_execs_cons ?_
    refine forA ?_
    dsimp only at *
    k_steps
    rename_i h8 tk8 t4 t5 t6 hr8 F8 N8 k8
    dsimp only at hr8 F8 N8
    refine range_enter (s := ⟨h8, _, _, _, _⟩) hr8 (small_one (by decide) (by decide) (by omega) (by omega)) (width : Int) (by rw [rangeSize_one]; split <;> omega) F8 N8 fun I2 h9 F9 N9 off2 => ?_
    dsimp only
    clear F8 N8
    refine forA_inv width (BsJ2 s I I2 S data t width k tw q tk) ?_ ?_ width 0 _ rfl (Nat.zero_le _) ?_
    · rintro j s' hj ⟨h, tk', m, b, rfl, F6, N6, hP, hda, hwi, hsw, hi⟩
      refine range_turn (s := ⟨h, _, _, _, _⟩) F6 N6 (by exact off2) (by omega) fun h7 F7 N7 => ?_
      clear F9 N9 F6 N6
      dsimp only
      k_steps
      have hin : q * width + width ≤ data.size := by
        rw [hk]
        calc q * width + width = (q + 1) * width := by rw [Nat.add_mul, Nat.one_mul]
          _ ≤ k * width := Nat.mul_le_mul_right _ hq
      have hbz := hP.1
      refine bytes_item_K (x := data.toList) (k := ((data.getD (q * width + j) 0).toNat : Int)) (by simp only [Array.length_toList]; omega) (by omega) (by simp only [Array.length_toList]; omega) ?_ ?_
      · rw [show (((q * width : Nat) : Int) + (j : Int)).toNat = q * width + j by omega]
        simp [List.getD_eq_getElem?_getD, Array.getD_eq_getD_getElem?]
      k_steps
      rename Fr _ _ _ _ => F8
      rename News _ _ _ _ => N8
      dsimp only
      obtain ⟨hS8, hSL, hS0⟩ := N8 _ (.tail _ (.tail _ (.head _)))
      have hI2 : @Ne Nat S I2 := off2 _ (.tail _ (.head _))
      refine setItem_ba (s := ⟨_, _, _, _, _⟩) hS8 (by omega) (by omega) (by omega) (by have := (data.getD (q * width + j) 0).toNat_lt; omega) (by omega) fun h9 hS9 hk9 => ?_
      have F9 := fr_but F8 (same_but hk9) (nin1 (Ne.symm hSL)) (all1 hS0)
      obtain ⟨g1, g2, g3⟩ := N8 _ (.head _)
      obtain ⟨g4, g5, g6⟩ := N8 _ (.tail _ (.head _))
      have N9 := news_cons (hk9.extBut _ _ (Ne.symm hI2) g1) g2 g3 (news_cons (hk9.extBut _ _ (Ne.symm hSI) g4) g5 g6 (news_one hS9 hSL hS0))
      rw [show (((q * width : Nat) : Int) + (width : Int) - 1 - (j : Int)).toNat = q * width + (width - 1 - j) by omega, Int.toNat_natCast, show (data.getD (q * width + j) 0).toNat.toUInt8 = data.getD (q * width + j) 0 from UInt8.ofNat_toNat] at N9
      clear F8 N8
      dsimp only
      k_steps
      refine ⟨_, _, _, _, rfl, F9, ?_, part_step hP hq hj hk, by with_unfolding_all exact hda, by with_unfolding_all exact hwi, by with_unfolding_all exact hsw, by with_unfolding_all exact hi⟩
      rw [show (width : Int) - (j : Int) - 1 = (width : Int) - ((j + 1 : Nat) : Int) by omega] at N9
      exact N9
    · rintro s' ⟨h, tk', m, b, rfl, F6, N6, hP, hda, hwi, hsw, hi⟩
      refine range_done (s := ⟨h, _, _, _, _⟩) hh F6 N6 (by exact off2) (by omega) fun h7 F7 N7 => ?_
      clear F9 N9 F6 N6
      refine wpAny_execs_nil ?_
      dsimp only [Ret]
      refine wpAny_execs_nil ?_
      exact ⟨_, _, _, _, rfl, F7, N7, part_done hP, hda, hwi, hsw⟩
    · exact ⟨_, _, _, _, rfl, F9, by simpa using N9, hP, by with_unfolding_all exact hda, by with_unfolding_all exact hwi, by with_unfolding_all exact hsw, by with_unfolding_all rfl⟩
  · rintro s' ⟨h, tk, m, b, rfl, F6, N6, hP, hda, hwi, hsw⟩
    refine range_done (s := ⟨h, _, _, _, _⟩) hh F6 N6 (by exact off) (by omega) fun h7 F7 N7 => ?_
    clear F5 N5 F6 N6
    refine wpAny_execs_nil ?_
    dsimp only [Ret]
    have hbz := hP.1
    have hbe := part_end hP hk
    k_steps
    rename Fr _ _ _ _ => F8
    rename News _ _ _ _ => N8
    refine call_bytes_ba (s := ⟨_, _, _, _, _⟩) (N8.get (.head _)) (by omega) fun t9 k9 => ?_
    dsimp only
    rw [hbe]
    k_steps
    exact hQ _ _ _ F8.keep
  · refine ⟨_, _, _, _, rfl, F5, by simpa using N5, ⟨by simp, fun p hp => by omega, fun p h1 h2 => by omega⟩, by with_unfolding_all rfl, by with_unfolding_all rfl, by with_unfolding_all rfl⟩
end
end
/-! Moved -/
section
set_option maxRecDepth 100000
set_option maxHeartbeats 4000000
theorem bInts_inj {a b : Array UInt8} (h : KBw.bInts a = KBw.bInts b) : a = b := by
  have e : ∀ x y : List UInt8, x.map (fun c => (c.toNat : Int)) = y.map (fun c => (c.toNat : Int)) → x = y := by
    intro x y h
    exact List.map_inj_right (fun a b q => UInt8.toNat_inj.mp (by exact Int.ofNat_inj.mp q)) |>.mp h
  exact Array.toList_inj.mp (e _ _ h)
theorem bInts_list (l : List UInt8) : KBw.bInts l.toArray = l.map (fun c => (c.toNat : Int)) := by simp [KBw.bInts]
theorem picked_eq {l : List UInt8} {lo hi : Option Int} {p q : Nat} (hp : lo.elim 0 (clipAt l.length) = p) (hq : hi.elim l.length (clipAt l.length) = q)
    (h : KBw.bInts (KBy.picked l.toArray lo hi) = ((KBw.bInts l.toArray).drop (lo.elim 0 (clipAt (KBw.bInts l.toArray).length))).take (hi.elim (KBw.bInts l.toArray).length (clipAt (KBw.bInts l.toArray).length) - lo.elim 0 (clipAt (KBw.bInts l.toArray).length))) :
    KBy.picked l.toArray lo hi = ((l.drop p).take (q - p)).toArray := by
  apply bInts_inj
  have hlen : (KBw.bInts l.toArray).length = l.length := by rw [bInts_list, List.length_map]
  rw [h, hlen, hp, hq, bInts_list, bInts_list, List.map_take, List.map_drop]
theorem clip_in {n k : Nat} (h : k ≤ n) : clipAt n (k : Int) = k := by
  have := clipAt_cast n (k : Int)
  rw [if_neg (by omega)] at this
  omega
section
variable {prog : Program} {w : World} {A : Around} {E : Value → Shared → Prop} {s : Shared} {h₀ : Heap} {L : Addr} {m : Str → Option Value} {news : List (Addr × Obj)} {value slice : Expr} {t : Tok} {Q : Value → Shared → Prop} {b : List UInt8} {l u : Value} {lo hi : Option Int}
theorem cut_slice {p q : Nat} (hl : IsPart l lo) (hu : IsPart u hi) (hz : b.length ≤ 4096) (hp : lo.elim 0 (clipAt b.length) = p) (hq : hi.elim b.length (clipAt b.length) = q) (F : Fr h₀ L s.heap m) (N : News h₀ L s.heap news)
    (h : ∀ h' t' k, Fr h₀ L h' m → News h₀ L h' news → Q (.bytes ((b.drop p).take (q - p)).toArray t') { s with heap := h', toks := k })
    (hs : subscripted slice false (.bytes b.toArray t) (.ref s.heap.objs.size) = operate [.ref s.heap.objs.size, .bytes b.toArray t] (getItem (.bytes b.toArray t) (.ref s.heap.objs.size)) := by with_unfolding_all rfl)
    (ht : ∀ r, letTemporaryGo value (.bytes b.toArray t) r = pure () := by intro _; with_unfolding_all rfl) :
    wpAny (model prog w) A (subscriptTail value slice (.bytes b.toArray t) (.ref s.heap.objs.size)) Q E { s with heap := s.heap.push { cls := .type "slice", data := .fields #[l, u, .none] } } := by
  refine KBc.slice_K F N rfl hl hu (by rw [bInts_list, List.length_map]; omega) (fun h' t' k F' N' e => ?_) hs ht
  rw [picked_eq hp hq e]
  exact h h' t' k F' N'
end
end
/-! Math -/
section
set_option maxRecDepth 100000
set_option maxHeartbeats 4000000
/-! the same on rows of rights -/
def hB (c : UInt8) : Bool := held c.toNat
def valB : Nat → List Bool → Nat
  | _, [] => 0
  | p, b :: bs => (if b then 256 / 2 ^ p else 0) + valB (p + 1) bs
theorem valB_append : ∀ (p : Nat) (a b : List Bool), valB p (a ++ b) = valB p a + valB (p + a.length) b
  | p, [], b => by simp [valB]
  | p, x :: a, b => by
    rw [List.cons_append, valB, valB, valB_append (p + 1) a b, List.length_cons]
    rw [show p + 1 + a.length = p + (a.length + 1) by omega]; omega
theorem worth_val {l : List UInt8} {st : Nat} : ∀ i, i ≤ l.length → worthTo l.toArray st i = valB st ((l.take i).map hB)
  | 0, _ => by simp [worthTo, valB]
  | i + 1, hi => by
    have hi' : i < l.length := by omega
    rw [worthTo, worth_val i (by omega), List.take_add_one, List.getElem?_eq_getElem hi', Option.toList_some, List.map_append, valB_append]
    have e : l.toArray.getD i 0 = l[i] := by simp [Array.getD, hi']
    rw [e]
    simp only [List.map_cons, List.map_nil, valB, hB, List.length_map, List.length_take, Nat.add_zero]
    rw [Nat.min_eq_left (by omega)]
/-! a number's places -/
def bitsB (sz r : Nat) : List Bool := (List.range sz).map fun j => r / 2 ^ (sz - 1 - j) % 2 == 1
def numB : List Bool → Nat
  | [] => 0
  | b :: bs => (if b then 2 ^ bs.length else 0) + numB bs
/-! the signs of a stretch -/
theorem held_sign {m p : Nat} (hp : p < 9) : held (signAt m p) = (m / 2 ^ (8 - p) % 2 == 1) := by
  have h3 : p % 3 = 0 ∨ p % 3 = 1 ∨ p % 3 = 2 := by omega
  unfold signAt
  split
  · split <;> split <;> simp_all [held]
  · split
    · rcases h3 with e | e | e <;> simp_all [held]
    · simp_all [held]
theorem sign_lt {m p : Nat} : signAt m p < 128 := by
  have h3 : p % 3 = 0 ∨ p % 3 = 1 ∨ p % 3 = 2 := by omega
  unfold signAt
  split
  · split <;> split <;> decide
  · split
    · rcases h3 with e | e | e <;> simp [e]
    · decide
def stretch (n st sz : Nat) : List UInt8 := (List.range sz).map fun j => UInt8.ofNat (signAt n (st + j))
theorem stretch_length (n st sz : Nat) : (stretch n st sz).length = sz := by simp [stretch]
theorem stretch_held {n st sz : Nat} (h : st + sz ≤ 9) : (stretch n st sz).map hB = (List.range sz).map fun j => n / 2 ^ (8 - (st + j)) % 2 == 1 := by
  unfold stretch
  rw [List.map_map]
  refine List.map_congr_left fun j hj => ?_
  have hj' := List.mem_range.mp hj
  simp only [Function.comp, hB]
  rw [UInt8.toNat_ofNat_of_lt' (Nat.lt_trans sign_lt (by decide)), held_sign (by omega)]
theorem stretch_bits {fx r st sz : Nat} (h : st + sz ≤ 9) (hr : r < 2 ^ sz) (hfx : fx / 2 ^ (9 - st - sz) % 2 ^ sz = 0) :
    (stretch (fx + 2 ^ (9 - st - sz) * r) st sz).map hB = bitsB sz r := by
  rw [stretch_held h]
  unfold bitsB
  refine List.map_congr_left fun j hj => ?_
  have hj' := List.mem_range.mp hj
  rw [show 8 - (st + j) = (9 - st - sz) + (sz - 1 - j) by omega, Nat.pow_add, ← Nat.div_div_eq_div_mul]
  rw [Nat.add_mul_div_left _ _ (Nat.two_pow_pos _)]
  obtain ⟨q, hq⟩ : ∃ q, fx / 2 ^ (9 - st - sz) = 2 ^ sz * q := ⟨fx / 2 ^ (9 - st - sz) / 2 ^ sz, by have := Nat.div_add_mod (fx / 2 ^ (9 - st - sz)) (2 ^ sz); omega⟩
  rw [hq]
  have e : (2 : Nat) ^ sz = 2 ^ (sz - 1 - j) * (2 * 2 ^ j) := by
    rw [← Nat.mul_assoc, ← Nat.pow_succ, ← Nat.pow_add]; congr 1; omega
  rw [e, Nat.mul_assoc, Nat.mul_add_div (Nat.two_pow_pos _)]
  rw [Nat.mul_assoc, Nat.mul_add_mod]
end
/-! Math2 -/
section
set_option maxRecDepth 100000
set_option maxHeartbeats 4000000
theorem and_split (x y : Nat) : x &&& y = 64 * ((x / 64) &&& (y / 64)) + ((x % 64) &&& (y % 64)) := by
  have h1 := Nat.and_div_two_pow (a := x) (b := y) (n := 6)
  have h2 := Nat.and_mod_two_pow (a := x) (b := y) (n := 6)
  have h3 := Nat.div_add_mod (x &&& y) 64
  rw [← h3]
  rw [show (64 : Nat) = 2 ^ 6 from rfl, h1, h2]
def okAnd (sz st : Nat) : Bool := (List.range 64).all fun c =>
  let lw := 2 ^ (9 - st - sz)
  let kp := 4095 - lw * (2 ^ sz - 1)
  (64 * (c &&& (kp / 64)) + lw * (64 * c / lw % 2 ^ sz) == 64 * c) && ((c &&& (kp % 64)) + (lw * (c / lw % 2 ^ sz)) == c)
theorem okA5 : (List.range 5).all (okAnd 5) = true := by decide +kernel
theorem okA6 : (List.range 4).all (okAnd 6) = true := by decide +kernel
theorem okA {sz st c : Nat} (hsz : sz = 5 ∨ sz = 6) (hst : st + sz ≤ 9) (hc : c < 64) : okAnd sz st = true := by
  rcases hsz with rfl | rfl
  · exact List.all_eq_true.mp okA5 st (List.mem_range.mpr (by omega))
  · exact List.all_eq_true.mp okA6 st (List.mem_range.mpr (by omega))
/-- a part of the places of a number, written by low and high six -/
theorem part_split {sz e c d : Nat} (h : e + sz ≤ 9) (hsz : sz = 5 ∨ sz = 6) (hd : d < 64) :
    2 ^ e * ((64 * c + d) / 2 ^ e % 2 ^ sz) = 2 ^ e * (64 * c / 2 ^ e % 2 ^ sz) + 2 ^ e * (d / 2 ^ e % 2 ^ sz) := by
  have e64 : 64 = 2 ^ e * 2 ^ (6 - e) := by rw [← Nat.pow_add, show e + (6 - e) = 6 by omega]
  have hx : d / 2 ^ e < 2 ^ (6 - e) := by
    rw [Nat.div_lt_iff_lt_mul (Nat.two_pow_pos _), Nat.mul_comm, ← e64]; exact hd
  have h1 : (64 * c + d) / 2 ^ e = 2 ^ (6 - e) * c + d / 2 ^ e := by
    rw [e64, Nat.mul_assoc, Nat.mul_add_div (Nat.two_pow_pos _)]
  have h2 : 64 * c / 2 ^ e = 2 ^ (6 - e) * c := by
    rw [e64, Nat.mul_assoc, Nat.mul_div_cancel_left _ (Nat.two_pow_pos _)]
  rw [h1, h2, ← Nat.mul_add]
  congr 1
  generalize d / 2 ^ e = x at hx ⊢
  by_cases hle : 6 - e ≤ sz
  · have eS : 2 ^ sz = 2 ^ (6 - e) * 2 ^ (sz - (6 - e)) := by
      rw [← Nat.pow_add, show 6 - e + (sz - (6 - e)) = sz by omega]
    have hlt : x < 2 ^ sz := Nat.lt_of_lt_of_le hx (Nat.pow_le_pow_right (by decide) hle)
    rw [Nat.mod_eq_of_lt hlt, eS, Nat.mul_mod_mul_left, Nat.mod_mul, Nat.mul_add_mod, Nat.mod_eq_of_lt hx, Nat.mul_add_div (Nat.two_pow_pos _), Nat.div_eq_of_lt hx, Nat.add_zero, Nat.add_comm]
  · have eM : 2 ^ (6 - e) = 2 ^ sz * 2 ^ (6 - e - sz) := by
      rw [← Nat.pow_add, show sz + (6 - e - sz) = 6 - e by omega]
    rw [eM, Nat.mul_assoc, Nat.mul_add_mod, Nat.mul_mod_right, Nat.zero_add]
theorem and_keep {sz st b : Nat} (hsz : sz = 5 ∨ sz = 6) (hst : st + sz ≤ 9) (hb : b < 4096) :
    (b &&& (4095 - 2 ^ (9 - st - sz) * (2 ^ sz - 1))) + 2 ^ (9 - st - sz) * (b / 2 ^ (9 - st - sz) % 2 ^ sz) = b := by
  have h1 := okA hsz hst (c := b / 64) (by omega)
  have h2 := List.all_eq_true.mp h1 (b / 64) (List.mem_range.mpr (by omega))
  have h3 := List.all_eq_true.mp h1 (b % 64) (List.mem_range.mpr (by omega))
  simp only [Bool.and_eq_true, beq_iff_eq] at h2 h3
  have h4 := part_split (e := 9 - st - sz) (sz := sz) (c := b / 64) (d := b % 64) (by omega) hsz (by omega)
  rw [Nat.div_add_mod] at h4
  rw [h4, and_split]
  have := Nat.div_add_mod b 64
  omega
theorem and_kind {n : Nat} (h : n < 65536) : n &&& 61440 = n / 4096 * 4096 := by
  have h1 := Nat.and_div_two_pow (a := n) (b := 61440) (n := 12)
  have h2 := Nat.and_mod_two_pow (a := n) (b := 61440) (n := 12)
  have h3 := Nat.div_add_mod (n &&& 61440) 4096
  have e1 : (61440 : Nat) / 2 ^ 12 = 2 ^ 4 - 1 := by decide
  have e2 : (61440 : Nat) % 2 ^ 12 = 0 := by decide
  rw [e1, Nat.and_two_pow_sub_one_eq_mod] at h1
  rw [e2, Nat.and_zero] at h2
  simp only [Nat.reducePow] at h1 h2
  omega
theorem and_mode (n : Nat) : n &&& 4095 = n % 4096 := Nat.and_two_pow_sub_one_eq_mod n 12
theorem part_low {sz e n : Nat} (h : e + sz ≤ 9) : n / 2 ^ e % 2 ^ sz = n % 4096 / 2 ^ e % 2 ^ sz := by
  have e12 : 4096 = 2 ^ e * 2 ^ (12 - e) := by rw [← Nat.pow_add, show e + (12 - e) = 12 by omega]
  rw [e12, Nat.mod_mul_right_div_self, Nat.mod_mod_of_dvd _ (Nat.pow_dvd_pow 2 (by omega))]
/-- what stands outside of the stretch -/
theorem rest_eq {sz st n : Nat} (hsz : sz = 5 ∨ sz = 6) (hst : st + sz ≤ 9) (hn : n < 65536) :
    (n &&& 61440) + ((n &&& 4095) &&& (4095 - 2 ^ (9 - st - sz) * (2 ^ sz - 1))) + 2 ^ (9 - st - sz) * (n / 2 ^ (9 - st - sz) % 2 ^ sz) = n := by
  rw [part_low (by omega), and_mode, and_kind hn]
  have := and_keep (b := n % 4096) hsz hst (by omega)
  omega
/-! words turned about -/
theorem swp_flat {sz : Nat} (hz : 0 < sz) : ∀ (ls : List (List UInt8)), (∀ l ∈ ls, l.length = sz) → swp ls.flatten.toArray sz = (ls.map List.reverse).flatten.toArray := by
  intro ls hl
  have hlen : ∀ (ls : List (List UInt8)), (∀ l ∈ ls, l.length = sz) → ls.flatten.length = ls.length * sz := by
    intro ls
    induction ls with
    | nil => simp
    | cons a ls ih =>
      intro h
      rw [List.flatten_cons, List.length_append, ih fun l q => h l (.tail _ q), h a (.head _), List.length_cons, Nat.succ_mul]; omega
  have hget : ∀ (ls : List (List UInt8)), (∀ l ∈ ls, l.length = sz) → ∀ q r, r < sz → ls.flatten.getD (q * sz + r) 0 = (ls.getD q []).getD r 0 := by
    intro ls
    induction ls with
    | nil => intro _ q r _; simp
    | cons a ls ih =>
      intro h q r hr
      have ha := h a (.head _)
      rw [List.flatten_cons]
      cases q with
      | zero => simp [List.getD_eq_getElem?_getD, List.getElem?_append, ha, hr]
      | succ q =>
        have := ih (fun l q => h l (.tail _ q)) q r hr
        have e : (q + 1) * sz + r - sz = q * sz + r := by rw [Nat.succ_mul]; omega
        have e2 : ¬ (q + 1) * sz + r < sz := by rw [Nat.succ_mul]; omega
        simp only [List.getD_eq_getElem?_getD, List.getElem?_append, ha, e, e2, if_false, List.getElem?_cons_succ] at this ⊢
        exact this
  have hl' : ∀ l ∈ ls.map List.reverse, l.length = sz := by
    intro l h
    obtain ⟨x, hx, rfl⟩ := List.mem_map.mp h
    rw [List.length_reverse]; exact hl x hx
  apply Array.ext
  · simp only [swp, List.size_toArray, Array.size_map, Array.size_range]
    rw [hlen _ hl, hlen _ hl', List.length_map]
  intro i hi hi'
  have hi2 : i < ls.length * sz := by simpa [swp, hlen _ hl] using hi
  have hq : i / sz < ls.length := Nat.div_lt_of_lt_mul (by rw [Nat.mul_comm]; exact hi2)
  have hr : i % sz < sz := Nat.mod_lt _ hz
  have e1 : (swp ls.flatten.toArray sz)[i] = swAt ls.flatten.toArray sz i := by simp [swp]
  have e2 : (ls.map List.reverse).flatten.toArray[i] = (ls.map List.reverse).flatten.getD i 0 := by
    have : i < (ls.map List.reverse).flatten.length := by rw [hlen _ hl', List.length_map]; exact hi2
    rw [List.getElem_toArray, List.getD_eq_getElem?_getD, List.getElem?_eq_getElem this, Option.getD_some]
  rw [e1, e2]
  unfold swAt
  have e3 : ∀ k, ls.flatten.toArray.getD k 0 = ls.flatten.getD k 0 := by
    intro k; simp [Array.getD_eq_getD_getElem?, List.getD_eq_getElem?_getD]
  rw [e3, hget ls hl _ _ (by omega)]
  have e4 : i = i / sz * sz + i % sz := by rw [Nat.mul_comm]; exact (Nat.div_add_mod i sz).symm
  rw [show (ls.map List.reverse).flatten.getD i 0 = (ls.map List.reverse).flatten.getD (i / sz * sz + i % sz) 0 by rw [← e4], hget _ hl' _ _ hr]
  have hlq := hl ls[i / sz] (List.getElem_mem hq)
  have hx : sz - 1 - i % sz < ls[i / sz].length := by omega
  simp [List.getD_eq_getElem?_getD, hq, List.getElem?_reverse, hlq, hr, List.getElem?_eq_getElem hx]
/-! the text of filemode -/
theorem join_one : ∀ (cs : List Nat), Txt.join (Str.ofString "") (cs.map one) = ⟨cs.toArray⟩ := by
  intro cs
  show Builtin.Str.glued (Str.ofString "") (cs.map one) = _
  rw [StrLaws.glued_eq_join]
  induction cs with
  | nil => rfl
  | cons a cs ih =>
    cases cs with
    | nil => rfl
    | cons b cs =>
      rw [List.map_cons, List.map_cons, join_cons_cons, ← List.map_cons (f := one), ih]
      have e : one a ++ Str.ofString "" = one a := by
        show (⟨(#[a] : Array Nat) ++ (Str.ofString "").cps⟩ : Str) = ⟨#[a]⟩
        rfl
      rw [e]
      show (⟨(#[a] : Array Nat) ++ (b :: cs).toArray⟩ : Str) = ⟨(a :: b :: cs).toArray⟩
      simp
end
/-! Math3 -/
section
set_option maxRecDepth 100000
set_option maxHeartbeats 4000000
theorem low_eq {st sz : Nat} (h : st + sz ≤ 9) : 512 / 2 ^ (st + sz) = 2 ^ (9 - st - sz) := by
  have e : (512 : Nat) = 2 ^ (9 - st - sz) * 2 ^ (st + sz) := by
    rw [← Nat.pow_add, show 9 - st - sz + (st + sz) = 9 by omega]
  rw [e, Nat.mul_div_cancel _ (Nat.two_pow_pos _)]
theorem fx_facts {md sz st : Nat} (hsz : sz = 5 ∨ sz = 6) (hst : st + sz ≤ 9) (hmd : md < 65536) :
    2 ^ (9 - st - sz) * (md / 2 ^ (9 - st - sz) % 2 ^ sz) ≤ md ∧
    (md - 2 ^ (9 - st - sz) * (md / 2 ^ (9 - st - sz) % 2 ^ sz)) / 2 ^ (9 - st - sz) % 2 ^ sz = 0 ∧
    ∀ r, r < 2 ^ sz → (md - 2 ^ (9 - st - sz) * (md / 2 ^ (9 - st - sz) % 2 ^ sz)) + 2 ^ (9 - st - sz) * r < 65536 ∧
      ((md - 2 ^ (9 - st - sz) * (md / 2 ^ (9 - st - sz) % 2 ^ sz)) + 2 ^ (9 - st - sz) * r) / 2 ^ (9 - st - sz) % 2 ^ sz = r := by
  have hlw : 0 < 2 ^ (9 - st - sz) := Nat.two_pow_pos _
  have hS : 0 < 2 ^ sz := Nat.two_pow_pos _
  have eM : 2 ^ (9 - st - sz) * 2 ^ sz * 2 ^ (7 + st) = 65536 := by
    rw [← Nat.pow_add, ← Nat.pow_add, show 9 - st - sz + sz + (7 + st) = 16 by omega]
  generalize 2 ^ (9 - st - sz) = lw at *
  generalize 2 ^ sz = S at *
  generalize 2 ^ (7 + st) = M at *
  have d1 := Nat.div_add_mod md lw
  have d2 := Nat.div_add_mod (md / lw) S
  have d3 := Nat.mod_lt md hlw
  have hmul : lw * (md / lw) = lw * (S * (md / lw / S)) + lw * (md / lw % S) := by rw [← Nat.mul_add, d2]
  have ef : md - lw * (md / lw % S) = lw * (S * (md / lw / S)) + md % lw := by omega
  have ha : md / lw / S < M := by
    rw [Nat.div_div_eq_div_mul, Nat.div_lt_iff_lt_mul (Nat.mul_pos hlw hS), Nat.mul_comm, eM]; exact hmd
  refine ⟨by omega, ?_, fun r hr => ?_⟩
  · rw [ef, Nat.mul_add_div hlw, Nat.div_eq_of_lt d3, Nat.add_zero, Nat.mul_mod_right]
  · have e2 : lw * (S * (md / lw / S)) + md % lw + lw * r = lw * (S * (md / lw / S) + r) + md % lw := by rw [Nat.mul_add]; omega
    rw [ef, e2]
    refine ⟨?_, ?_⟩
    · have h1 : S * (md / lw / S) + r + 1 ≤ S * M := by
        have : S * (md / lw / S) + S ≤ S * M := by rw [← Nat.mul_succ]; exact Nat.mul_le_mul_left _ ha
        omega
      have h2 : lw * (S * (md / lw / S) + r + 1) ≤ lw * (S * M) := Nat.mul_le_mul_left _ h1
      rw [← Nat.mul_assoc, eM, Nat.mul_add, Nat.mul_one] at h2
      omega
    · rw [Nat.mul_add_div hlw, Nat.div_eq_of_lt d3, Nat.add_zero, Nat.mul_add_mod, Nat.mod_eq_of_lt hr]
theorem low_le {st sz : Nat} (hsz : sz = 5 ∨ sz = 6) (hst : st + sz ≤ 9) : 2 ^ (9 - st - sz) * (2 ^ sz - 1) ≤ 4095 ∧ 0 < 2 ^ (9 - st - sz) ∧ 2 ^ (9 - st - sz) ≤ 16 := by
  have h1 : 2 ^ (9 - st - sz) * 2 ^ sz ≤ 2 ^ 9 := by
    rw [← Nat.pow_add]; exact Nat.pow_le_pow_right (by decide) (by omega)
  have h2 : 2 ^ (9 - st - sz) * (2 ^ sz - 1) ≤ 2 ^ (9 - st - sz) * 2 ^ sz := Nat.mul_le_mul_left _ (Nat.sub_le _ _)
  have h3 : 2 ^ (9 - st - sz) ≤ 2 ^ 4 := Nat.pow_le_pow_right (by decide) (by omega)
  exact ⟨Nat.le_trans (Nat.le_trans h2 h1) (by decide), Nat.two_pow_pos _, h3⟩
end
/-! Joined -/
section
set_option maxRecDepth 100000
set_option maxHeartbeats 4000000
theorem joined_from : ∀ (ls : List (List UInt8)) (k : Nat) (out : Array UInt8),
    ((ls.map List.toArray).zipIdx k).foldl (fun out (p : Array UInt8 × Nat) => (if p.2 > 0 then out ++ (#[] : Array UInt8) else out) ++ p.1) out = out ++ ls.flatten.toArray
  | [], _, out => by simp
  | l :: ls, k, out => by
    rw [List.map_cons, List.zipIdx_cons, List.foldl_cons, joined_from ls]
    have e : (if k > 0 then out ++ (#[] : Array UInt8) else out) = out := by split <;> simp
    show (if k > 0 then out ++ (#[] : Array UInt8) else out) ++ l.toArray ++ ls.flatten.toArray = _
    rw [e]; simp
theorem joined_flat (ls : List (List UInt8)) : Builtin.Bytes.joined #[] (ls.map List.toArray) = ls.flatten.toArray := by
  have := joined_from ls 0 #[]
  rw [Array.empty_append] at this
  exact this
theorem sizes_from : ∀ (ls : List (List UInt8)) (n : Nat), (ls.map List.toArray).foldl (fun n b => n + b.size) n = n + ls.flatten.length
  | [], n => by simp
  | l :: ls, n => by
    rw [List.map_cons, List.foldl_cons, sizes_from ls]; simp; omega
theorem sizes_flat (ls : List (List UInt8)) : (ls.map List.toArray).toArray.foldl (fun n b => n + b.size) 0 = ls.flatten.length := by
  rw [List.foldl_toArray, sizes_from]; omega
theorem flat_len {sz : Nat} : ∀ {ls : List (List UInt8)}, (∀ l ∈ ls, l.length = sz) → ls.flatten.length = ls.length * sz := by
  intro ls
  induction ls with
  | nil => simp
  | cons a ls ih =>
    intro h
    rw [List.flatten_cons, List.length_append, ih fun l q => h l (.tail _ q), h a (.head _), List.length_cons, Nat.succ_mul]; omega
end
/-! Cells -/
section
set_option maxRecDepth 100000
set_option maxHeartbeats 4000000
section
variable {prog : Program} {w : World} {A : Around} {E : Value → Shared → Prop} {s : Shared} {name qual : Str} {params : Arguments} {body : List Stmt} {scope : Scope} {dV kV doc pm cdv ct : Value} {an : Option Addr} {fo : Obj} {f : Addr} {vals : List Value} {binds : List (Str × Value)} {Q : Value → Shared → Prop}
theorem callC_cells (hlim : s.heap.NoLimit) (hroom : A.depth < recursionLimit)
    (ho : s.heap.get? f = some fo) (hd : fo.data = .func (fnX name qual params body scope [] dV kV doc pm an cdv ct)) (hcd : s.heap.CodeRec cdv qual)
    (hbind : bindArgs (fnX name qual params body scope [] dV kV doc pm an cdv ct) ⟨vals, []⟩ = pure binds)
    (hkind : ∀ n, ∀ x ∈ binds, scope.names.lookup x.1 = some .local ∨ (scope.names.lookup x.1 = some .cell ∧ ((cellsFrom n scope.names []).lookup x.1).isSome = true))
    (hnd : ((cellsFrom 0 scope.names []).map (·.1)).Nodup)
    (h : ∀ h₁ tk cells, Fr s.heap s.heap.objs.size h₁ (bindL (envOfC qual scope s.heap.objs.size f cdv).kindOf binds fun _ => none) → News s.heap s.heap.objs.size h₁ cells →
      CellsAre (bindC (envOfC qual scope s.heap.objs.size f cdv).kindOf binds fun _ => none) (cellsFrom (s.heap.objs.size + 1) scope.names []) cells →
      wpC (model prog w) (A.deeper (envOfC qual scope s.heap.objs.size f cdv)) (execs body (envOfC qual scope s.heap.objs.size f cdv))
        (fun fl s' => Q (match fl with | .ret v => v | _ => .none) s') NoE { s with heap := h₁, toks := tk })
    (hco : scope.isCoroutine = false := by rfl) (hgen : scope.isGenerator = false := by rfl) (hk : scope.kind = .function := by rfl) : wpC (model prog w) A (call (.ref f) vals) Q E s := by
  refine wpC_call (codeC_call_function hroom ho hd hco hgen rfl hcd ?_)
  rw [hbind]
  refine wpAny_pure (wpAny_newFunctionEnv_cells hk (hkind _) fun env' he s' x => ?_)
  subst he
  refine ⟨hlim.keeps x.toInCall.keep, codeC_func ?_⟩
  obtain ⟨h₁, tk, rfl, _⟩ := x.done
  have hk₁ := x.toInCall.keep
  obtain ⟨cells, NC, Y⟩ := Cl.news (h₀ := s.heap) (Nat.le_refl _) fun n c hm => ⟨x.cell n c (lookup_of_mem_nodup (cellsFrom_names scope.names 0 (s.heap.objs.size + 1) [] [] rfl ▸ hnd) hm), x.above n c hm⟩
  exact h h₁ tk cells ⟨x.toInCall.ns, hk₁, Nat.le_refl _⟩ (fun p hp => ⟨(NC p hp).1, (NC p hp).2.1, (NC p hp).2.2⟩) Y
end
section
variable {M : Model} {A : Around} {E : Value → Shared → Prop} {s : Shared} {K : Frag} {h₀ : Heap} {mg mb : Str → Option Value} {p : Program} {loose : List Str} {mean : ExcName → Option Value} {env : Env} {scope : Scope} {C : Addr} {x : Str} {pos : Pos} {v : Value} {Q : Value → Shared → Prop}
/-- a builtin's name in a comprehension's block -/
theorem name_blt (X : K.In h₀) (T : Top p loose mean mg mb h₀) (keep : Kp h₀ s.heap) (e : nsIn K mainGlobals x = some none) (hv : bootBuiltins x = some v) (h : Q v s) (hn : x ≠ "__name__" := by decide)
    (hg : env.globals = mainGlobals := by rfl) (hb : env.builtins = builtinsNs := by rfl) (hk : scope.kind = .function := by rfl) (hx : (compEnv scope C env).kindOf x = some .globalImplicit := by rfl) (hd : (x == ("__debug__" : Str)) = false := by decide) :
    wpAny M A (eval (.Name x pos) (compEnv scope C env)) Q E s := by
  have T' := topRead_of T
  refine Name_function_global hk hx (loadGlobal_builtin (mg := mg) (mb := mb) ?_ (mg_none_of X T'.g e) ?_ ((T'.builtins x hn).trans hv) h) hd
  · show s.heap.Ns env.globals mg
    rw [hg]; exact T'.g.keeps keep
  · show s.heap.Ns env.builtins mb
    rw [hb]; exact T'.b.keeps keep
end
section
variable {M : Model} {A : Around} {E : Value → Shared → Prop} {s : Shared} {env : Env}
/-- the next statement by what holds behind it -/
theorem nextC_mid {st rest} {Q : Flow → Shared → Prop} (Mid : Shared → Prop) (h1 : wpC M A (exec st env) (fun f s' => f = .next ∧ Mid s') NoE s) (h2 : ∀ s', Mid s' → wpC M A (execs rest env) Q E s') :
    wpC M A (execs (st :: rest) env) Q E s := by
  refine wpC_execs_cons (wpC_mono h1 (fun f s' h => ?_) fun _ _ h => h.elim)
  obtain ⟨rfl, h⟩ := h
  exact h2 s' h
end
end
/-! CompE -/
section
set_option maxRecDepth 100000
set_option maxHeartbeats 4000000
section
variable {prog : Program} {w : World} {A : Around} {E : Value → Shared → Prop} {env : Env} {s₂ : Shared}
/-- a comprehension as an expression: its block walked -/
theorem compE_of {h₀ : Heap} {L : Addr} {m : Str → Option Value} {news : List (Addr × Obj)} {I : Addr} {fp : List Addr} {n : Nat} {P : Nat → Value → Prop} {St : Nat → Heap → Prop} {scope : Scope} {x : Str} {elt : Expr} {Q : Value → Shared → Prop} {G : Value → Value → Prop}
    (F : Fr h₀ L s₂.heap m) (N : News h₀ L s₂.heap news) (Wk : Walks prog w A I fp [I] n P St) (hsz : n ≤ sizeLine) (hst : St 0 s₂.heap) (hfp : ∀ b ∈ fp, b < s₂.heap.objs.size)
    (hI : h₀.get? I = none) (hIL : @Ne Nat I L) (off : Off I news)
    (he : ∀ C i v s₃ m₃ E', P i v → s₃.heap.Ns C m₃ → m₃ x = some v → KpBut [I] s₂.heap s₃.heap → wpAny (model prog w) A (eval elt (compEnv scope C env)) (fun y s₄ => G v y ∧ Keeps s₃ s₄) E' s₃)
    (h : ∀ D h' tk ys nn vs, vs.length = n → (∀ j v, vs[j]? = some v → P j v) → Paired G vs ys → Fr h₀ L h' m →
      News h₀ L h' ((D, W.listOf ys.toArray nn) :: news) → Q (.ref D) { s₂ with heap := h', toks := tk }) :
    CompPost prog w A env scope x [] elt Q (.ref I) s₂ := by
  refine ⟨fun _ => true, G, I, fp, [I], n, P, St, rfl, Wk, hsz, hst, hfp, quiet_nil he, ?_⟩
  intro D h' tk ys vs hD hl hpl hlen hP hF hk
  obtain ⟨nn, hp⟩ := hpl
  have ef : vs.filter (fun _ => true) = vs := by simp
  rw [ef] at hF
  have hDL : @Ne Nat D L := by
    rintro rfl
    obtain ⟨oL, _, _, hL, _⟩ := F.ns
    rw [hD] at hL; cases hL
  have hD0 : h₀.get? D = none := by
    cases q : h₀.get? D with
    | none => rfl
    | some o => have := F.keep _ _ q; rw [hD] at this; cases this
  have F' : Fr h₀ L h' m := fr_but F hk (nin1 (Ne.symm hIL)) (all1 hI)
  refine h D h' tk ys.toList nn vs hlen hP hF F' ?_
  refine news_cons (by rw [Array.toArray_toList]; exact hp) hDL hD0 fun p hp => ?_
  obtain ⟨g1, g2, g3⟩ := N p hp
  exact ⟨hk _ _ (off.nin p hp) g1, g2, g3⟩
theorem compE_str {s : Shared} {h₀ : Heap} {L : Addr} {m : Str → Option Value} {news : List (Addr × Obj)} {y : Str} {t : Tok} {scope : Scope} {x : Str} {elt : Expr} {Q : Value → Shared → Prop} {G : Nat → Value → Prop} (hh : A.handled = none)
    (F : Fr h₀ L s.heap m) (N : News h₀ L s.heap news) (hsz : y.cps.size ≤ sizeLine)
    (he : ∀ C c u s₃ m₃ E', s₃.heap.Ns C m₃ → m₃ x = some (.str ⟨#[c]⟩ u) → Kp s.heap s₃.heap → wpAny (model prog w) A (eval elt (compEnv scope C env)) (fun z s₄ => G c z ∧ Keeps s₃ s₄) E' s₃)
    (h : ∀ D h' tk ys nn, Paired G y.cps.toList ys → Fr h₀ L h' m → News h₀ L h' ((D, W.listOf ys.toArray nn) :: news) → Q (.ref D) { s with heap := h', toks := tk }) :
    wpAny (model prog w) A (pyIter (.str y t)) (CompPost prog w A env scope x [] elt Q) E s := by
  have hL := fr_lt F
  refine wpAny_pyIter_str fun o St W hst => ?_
  refine compE_of (s₂ := ⟨_, _, _, _, _⟩) (G := fun v z => ∃ (c : Nat) (u : Tok), v = .str ⟨#[c]⟩ u ∧ G c z) (F.push _) (N.pushKeep _) (W A hh) hsz hst ?_ (fresh_none F (Nat.le_refl _)) (by omega) ?_ ?_ ?_
  · intro b hb
    rw [Heap.size_push]
    rcases List.mem_cons.mp hb with rfl | hb
    · exact Nat.lt_succ_self _
    · cases hb
  · intro b hb
    obtain ⟨p, hp, rfl⟩ := List.mem_map.mp hb
    exact Nat.ne_of_lt (news_lt N p hp)
  · intro C i v s₃ m₃ E' hP hn hm hk
    obtain ⟨c, u, _, rfl⟩ := hP
    exact wpAny_mono (he C c u s₃ m₃ E' hn hm fun b o q => hk b o (nin1 (Nat.ne_of_lt (Heap.lt_size q))) (Heap.get?_push_of_some _ q)) (fun z s₄ q => ⟨⟨c, u, rfl, q.1⟩, q.2⟩) fun _ _ e => e
  · intro D h' tk ys nn vs hlen hP hF F' N'
    refine h D h' tk ys nn ?_ F' N'
    have e : ∀ (cs : List Nat) (vs ys : List Value), vs.length = cs.length → (∀ (j : Nat) (v : Value), vs[j]? = some v → ∃ (c : Nat) (u : Tok), cs[j]? = some c ∧ v = Value.str ⟨#[c]⟩ u) → Paired (fun v z => ∃ (c : Nat) (u : Tok), v = Value.str ⟨#[c]⟩ u ∧ G c z) vs ys → Paired G cs ys := by
      intro cs
      induction cs with
      | nil =>
        intro vs ys h1 h2 h3
        cases vs with
        | nil => cases h3; exact .nil
        | cons _ _ => cases h1
      | cons c cs ih =>
        intro vs ys h1 h2 h3
        cases h3 with
        | nil => cases h1
        | cons hq hr =>
          obtain ⟨c1, u1, e1, hg⟩ := hq
          obtain ⟨c2, u2, e2, e3⟩ := h2 0 _ rfl
          cases e2
          rw [e1] at e3
          injection e3 with e4 _
          injection e4 with e4
          injection e4 with e4
          injection e4 with e4
          subst e4
          exact .cons hg (ih _ _ (by simpa using h1) (fun j v q => h2 (j + 1) v (by simpa using q)) hr)
    exact e y.cps.toList vs ys (by simpa using hlen) (fun j v q => by
      obtain ⟨c, u, h1, h2⟩ := hP j v q
      exact ⟨c, u, by simpa using h1, h2⟩) hF
theorem ints_of_nats {cs : List Nat} {ys : List Value} (h : Paired (fun (c : Nat) z => ∃ t, z = .int (c : Int) t) cs ys) : IntsAre ys (cs.map Int.ofNat) := by
  induction h with
  | nil => exact .nil
  | cons h1 _ ih =>
    obtain ⟨t, rfl⟩ := h1
    exact .cons _ _ ih
/-- what stands in a stretch of the row -/
theorem slice_codes {n st sz : Nat} (h : st + sz ≤ 9) : (Txt.slice (⟨(codes n).toArray⟩ : Str) (some (1 + (st : Int))) (some (1 + (st : Int) + (sz : Int)))).cps.toList = (List.range sz).map fun j => signAt n (st + j) := by
  have e := slice_closes (x := ⟨(codes n).toArray⟩) (i := 1 + (st : Int)) (j := 1 + (st : Int) + (sz : Int)) ⟨by omega, by omega, by
    show _ ≤ (((codes n).toArray.toList.length : Nat) : Int)
    rw [List.toList_toArray, codes_length]; omega⟩
  rw [eq_of_beq e]
  show ((codes n).drop (1 + (st : Int)).toNat).take (1 + (st : Int) + (sz : Int) - (1 + (st : Int))).toNat = _
  rw [show (1 + (st : Int)).toNat = st + 1 by omega, show (1 + (st : Int) + (sz : Int) - (1 + (st : Int))).toNat = sz by omega]
  apply List.ext_getElem?
  intro j
  by_cases hj : j < sz
  · rw [List.getElem?_take_of_lt hj, List.getElem?_drop, codes_get (by omega), List.getElem?_map, List.getElem?_range hj, show st + 1 + j = (st + j) + 1 by omega]
    rfl
  · rw [List.getElem?_eq_none (by rw [List.length_take]; omega), List.getElem?_eq_none (by rw [List.length_map, List.length_range]; omega)]
theorem octets_stretch {n st sz : Nat} : ((((List.range sz).map fun j => signAt n (st + j)).map Int.ofNat).map fun k => k.toNat.toUInt8).toArray = (stretch n st sz).toArray := by
  congr 1
  rw [List.map_map, List.map_map]
  rfl
end
end
/-! Byt5 -/
section
set_option maxRecDepth 100000
set_option maxHeartbeats 4000000
section
variable {prog : Program} {w : World} {A : Around} {E : Value → Shared → Prop} {s : Shared}
end
end
/-! Comp3 -/
section
set_option maxRecDepth 100000
set_option maxHeartbeats 4000000
section
variable {prog : Program} {w : World} {A : Around} {E : Value → Shared → Prop} {R : Result → Shared → Prop} {env : Env} {elt i0 i1 : Expr} {x0 x1 : Str} {p0 p1 : Pos} {scope : Scope} {pos : Pos} {acc : Value}
end
end
/-! Comp4 -/
section
set_option maxRecDepth 100000
set_option maxHeartbeats 4000000
section
variable {prog : Program} {w : World} {A : Around} {E : Value → Shared → Prop} {env : Env} {s : Shared} {h₀ : Heap} {L : Addr} {m : Str → Option Value}
/-- a store into a comprehension's block -/
theorem store_C {scope : Scope} {cl : List (Str × Addr)} {C : Addr} {oC : Obj} {mC : Str → Option Value} {rest : List (Addr × Obj)} {x : Str} {v : Value} {Q : Unit → Shared → Prop} (F : Fr h₀ L s.heap m) (N : News h₀ L s.heap ((C, oC) :: rest)) (hC : LCg.NsObj oC mC) (off : Off C rest)
    (h : ∀ h' oC' m', Fr h₀ L h' m → News h₀ L h' ((C, oC') :: rest) → LCg.NsObj oC' m' → m' x = some v → Q () { s with heap := h', toks := s.toks + 1 })
    (hy : (compEnvC scope cl C env).kindOf x = some .local := by rfl) (hp : ((compEnvC scope cl C env).scope.kind == .class || ((compEnvC scope cl C env).scope.kind == .module && (compEnvC scope cl C env).locals != (compEnvC scope cl C env).globals)) = false := by rfl) :
    wpAny (model prog w) A (storeName (compEnvC scope cl C env) x v) Q E s := by
  obtain ⟨g1, g2, g3⟩ := N _ (.head _)
  refine wpAny_storeName_local hy (hC.ns g1) (fun h₂ hn₂ hs₂ => ?_) hp
  obtain ⟨oC', e1, e2⟩ := LCg.ns_obj hn₂
  have hs : Heap.SameBut C s.heap h₂ := hs₂
  exact h h₂ oC' _ (fr_but F (same_but hs) (nin1 (Ne.symm g2)) (all1 g3)) (news_cons e1 g2 g3 (news_but (news_tl N) (same_but hs) off.nin)) e2 (by simp)
/-- an append to a list of the ledger -/
theorem append_L {D : Addr} {ys : List Value} {rest : List (Addr × Obj)} {v : Value} {Q : Value → Shared → Prop} (F : Fr h₀ L s.heap m) (N : News h₀ L s.heap ((D, LCg.lst ys) :: rest)) (off : Off D rest) (hz : ys.length ≤ sizeLine)
    (h : ∀ h', Fr h₀ L h' m → News h₀ L h' ((D, LCg.lst (ys ++ [v])) :: rest) → Q .none { s with heap := h' }) :
    wpAny (model prog w) A (call (.builtin "list.append") [.ref D, v]) Q E s := by
  obtain ⟨g1, g2, g3⟩ := N _ (.head _)
  refine append_at (hsz := by rw [List.size_toArray]; exact hz) g1 fun h' hs ho' => ?_
  rw [LCg.lst_snoc] at ho'
  exact h h' (fr_but F (same_but hs) (nin1 (Ne.symm g2)) (all1 g3)) (news_cons ho' g2 g3 (news_but (news_tl N) (same_but hs) off.nin))
end
end
/-! Cells2 -/
section
set_option maxRecDepth 100000
set_option maxHeartbeats 4000000
section
variable {prog : Program} {w : World} {A : Around} {E : Value → Shared → Prop} {s : Shared} {K : Frag} {p : Program} {loose : List Str} {mean : ExcName → Option Value} {mg mb : Str → Option Value}
  {name qual : Str} {params : Arguments} {body : List Stmt} {scope : Scope} {dV kV doc pm cdv ct oc : Value} {an od : Option Addr} {osl : Array (Option Value)} {f : Addr} {vals : List Value} {binds : List (Str × Value)} {Q : Value → Shared → Prop}
theorem callA_cells (X : K.In s.heap) (T : Top p loose mean mg mb s.heap) (hroom : A.depth < recursionLimit)
    (ho : K.lookup f = some ⟨oc, od, .func (fnOf name qual params body scope dV kV doc pm an cdv ct), osl⟩) (hcd : codeIn K cdv qual = true)
    (hbind : bindArgs (fnOf name qual params body scope dV kV doc pm an cdv ct) ⟨vals, []⟩ = pure binds)
    (hkind : ∀ n, ∀ x ∈ binds, scope.names.lookup x.1 = some .local ∨ (scope.names.lookup x.1 = some .cell ∧ ((cellsFrom n scope.names []).lookup x.1).isSome = true))
    (hnd : ((cellsFrom 0 scope.names []).map (·.1)).Nodup) (hco : scope.isCoroutine = false) (hgen : scope.isGenerator = false) (hk : scope.kind = .function)
    (h : ∀ h₁ tk cells, Fr s.heap s.heap.objs.size h₁ (bindL (envOfC qual scope s.heap.objs.size f cdv).kindOf binds fun _ => none) → News s.heap s.heap.objs.size h₁ cells →
      CellsAre (bindC (envOfC qual scope s.heap.objs.size f cdv).kindOf binds fun _ => none) (cellsFrom (s.heap.objs.size + 1) scope.names []) cells → K.In s.heap → Top p loose mean mg mb s.heap →
      wpAny (model prog w) (A.deeper (envOfC qual scope s.heap.objs.size f cdv)) (execs body (envOfC qual scope s.heap.objs.size f cdv))
        (fun fl s' => Q (match fl with | .ret v => v | _ => .none) s') NoE { s with heap := h₁, toks := tk }) : wpAny (model prog w) A (call (.ref f) vals) Q E s := by
  refine wpAny_call (codeAny_call_function hroom (X _ _ ho) rfl hco hgen rfl (codeRec_of X hcd) ?_)
  rw [hbind]
  refine wpAny_pure (wpAny_newFunctionEnv_cells hk (hkind _) fun env' he s' x => ?_)
  subst he
  refine ⟨T.nolimit.keeps x.toInCall.keep, codeAny_func (any_noE ?_)⟩
  obtain ⟨h₁, tk, rfl, _⟩ := x.done
  have hk₁ := x.toInCall.keep
  obtain ⟨cells, NC, Y⟩ := Cl.news (h₀ := s.heap) (Nat.le_refl _) fun n c hm => ⟨x.cell n c (lookup_of_mem_nodup (cellsFrom_names scope.names 0 (s.heap.objs.size + 1) [] [] rfl ▸ hnd) hm), x.above n c hm⟩
  exact h h₁ tk cells ⟨x.toInCall.ns, hk₁, Nat.le_refl _⟩ (fun p hp => ⟨(NC p hp).1, (NC p hp).2.1, (NC p hp).2.2⟩) Y X T
theorem callC_cells2 (X : K.In s.heap) (T : Top p loose mean mg mb s.heap) (hroom : A.depth < recursionLimit)
    (ho : K.lookup f = some ⟨oc, od, .func (fnOf name qual params body scope dV kV doc pm an cdv ct), osl⟩) (hcd : codeIn K cdv qual = true)
    (hbind : bindArgs (fnOf name qual params body scope dV kV doc pm an cdv ct) ⟨vals, []⟩ = pure binds)
    (hkind : ∀ n, ∀ x ∈ binds, scope.names.lookup x.1 = some .local ∨ (scope.names.lookup x.1 = some .cell ∧ ((cellsFrom n scope.names []).lookup x.1).isSome = true))
    (hnd : ((cellsFrom 0 scope.names []).map (·.1)).Nodup) (hco : scope.isCoroutine = false) (hgen : scope.isGenerator = false) (hk : scope.kind = .function)
    (h : ∀ h₁ tk cells, Fr s.heap s.heap.objs.size h₁ (bindL (envOfC qual scope s.heap.objs.size f cdv).kindOf binds fun _ => none) → News s.heap s.heap.objs.size h₁ cells →
      CellsAre (bindC (envOfC qual scope s.heap.objs.size f cdv).kindOf binds fun _ => none) (cellsFrom (s.heap.objs.size + 1) scope.names []) cells → K.In s.heap → Top p loose mean mg mb s.heap →
      wpC (model prog w) (A.deeper (envOfC qual scope s.heap.objs.size f cdv)) (execs body (envOfC qual scope s.heap.objs.size f cdv))
        (fun fl s' => Q (match fl with | .ret v => v | _ => .none) s') NoE { s with heap := h₁, toks := tk }) : wpC (model prog w) A (call (.ref f) vals) Q E s :=
  callC_cells T.nolimit hroom (X _ _ ho) rfl (codeRec_of X hcd) hbind hkind hnd (fun h₁ tk cells F N Y => h h₁ tk cells F N Y X T) hco hgen hk
end
end
/-! Comp5 -/
section
set_option maxRecDepth 100000
set_option maxHeartbeats 4000000
section
variable {prog : Program} {w : World} {A : Around} {E : Value → Shared → Prop} {R : Result → Shared → Prop} {env : Env} {elt i0 : Expr} {x0 : Str} {p0 : Pos} {scope : Scope} {pos : Pos} {acc : Value}
/-- a comprehension's loop by what holds ahead of each turn -/
theorem loop_one {it : Value} (n : Nat) (J : Nat → Shared → Prop)
    (turn : ∀ i s, i < n → J i s → wpAny (model prog w) A (pyNext it) (fun r s₁ => ∃ v, r = some v ∧ wpAny (model prog w) A (assign (.Name x0 p0) env v) (fun _ s₂ => wpAny (model prog w) A (eval elt env) (fun x s₃ =>
      wpAny (model prog w) A (call (.builtin "list.append") [acc, x]) (fun _ s₄ => J (i + 1) s₄) NoE s₃) NoE s₂) NoE s₁) NoE s)
    (done : ∀ s, J n s → wpAny (model prog w) A (pyNext it) (fun r s₁ => r = none ∧ R (.ok .next) s₁) NoE s) :
    ∀ (k i : Nat) (s : Shared), k = n - i → i ≤ n → J i s → codeAny (model prog w) A (.compLoop (.ListComp elt [⟨.Name x0 p0, i0, [], 0⟩] scope pos) 0 it acc env) R s := by
  intro k
  induction k with
  | zero =>
    intro i s hk hi hJ
    obtain rfl : i = n := by omega
    refine codeAny_of_tree ?_
    show wpAny _ A ((compTurn (.ListComp elt [⟨.Name x0 p0, i0, [], 0⟩] scope pos) 0 it acc env).onRaise (fun x => do noteFrame x env; theTreesLotGoes x)) _ _ s
    refine wpAny_onRaise (any_noE ?_)
    rw [compTurn_list1]
    refine wpAny_bind (wpAny_standAt (wpAny_bind (wpAny_mono (done s hJ) (fun r s₁ h₁ => ?_) fun _ _ e => e)))
    obtain ⟨rfl, h₁⟩ := h₁
    exact wpAny_pure h₁
  | succ k ih =>
    intro i s hk hi hJ
    refine codeAny_of_tree ?_
    show wpAny _ A ((compTurn (.ListComp elt [⟨.Name x0 p0, i0, [], 0⟩] scope pos) 0 it acc env).onRaise (fun x => do noteFrame x env; theTreesLotGoes x)) _ _ s
    refine wpAny_onRaise (any_noE ?_)
    rw [compTurn_list1]
    refine wpAny_bind (wpAny_standAt (wpAny_bind (wpAny_mono (turn i s (by omega) hJ) (fun r s₁ h₁ => ?_) fun _ _ e => e)))
    obtain ⟨v, rfl, h₁⟩ := h₁
    refine wpAny_bind (wpAny_of_eq rfl ?_)
    refine wpAny_bind (wpAny_mono h₁ (fun _ s₂ h₂ => ?_) fun _ _ e => e)
    refine wpAny_bind (wpAny_bind (wpAny_mono h₂ (fun x s₃ h₃ => ?_) fun _ _ e => e))
    refine wpAny_bind (wpAny_mono h₃ (fun _ s₄ h₄ => ?_) fun _ _ e => e)
    exact wpAny_pure (wpAny_pure ⟨rfl, ih (i + 1) s₄ (by omega) (by omega) h₄⟩)
theorem loop_oneT {it : Value} {ct : Expr} (n : Nat) (J : Nat → Shared → Prop)
    (turn : ∀ i s, i < n → J i s → wpAny (model prog w) A (pyNext it) (fun r s₁ => ∃ v, r = some v ∧ wpAny (model prog w) A (assign (.Name x0 p0) env v) (fun _ s₂ => wpAny (model prog w) A (isTrue ct env (eval ct env)) (fun ok s₂' =>
      if ok = true then wpAny (model prog w) A (eval elt env) (fun x s₃ => wpAny (model prog w) A (call (.builtin "list.append") [acc, x]) (fun _ s₄ => J (i + 1) s₄) NoE s₃) NoE s₂' else J (i + 1) s₂') NoE s₂) NoE s₁) NoE s)
    (done : ∀ s, J n s → wpAny (model prog w) A (pyNext it) (fun r s₁ => r = none ∧ R (.ok .next) s₁) NoE s) :
    ∀ (k i : Nat) (s : Shared), k = n - i → i ≤ n → J i s → codeAny (model prog w) A (.compLoop (.ListComp elt [⟨.Name x0 p0, i0, [ct], 0⟩] scope pos) 0 it acc env) R s := by
  intro k
  induction k with
  | zero =>
    intro i s hk hi hJ
    obtain rfl : i = n := by omega
    refine codeAny_of_tree ?_
    show wpAny _ A ((compTurn (.ListComp elt [⟨.Name x0 p0, i0, [ct], 0⟩] scope pos) 0 it acc env).onRaise (fun x => do noteFrame x env; theTreesLotGoes x)) _ _ s
    refine wpAny_onRaise (any_noE ?_)
    rw [compTurn_list]
    refine wpAny_bind (wpAny_standAt (wpAny_bind (wpAny_mono (done s hJ) (fun r s₁ h₁ => ?_) fun _ _ e => e)))
    obtain ⟨rfl, h₁⟩ := h₁
    exact wpAny_pure h₁
  | succ k ih =>
    intro i s hk hi hJ
    refine codeAny_of_tree ?_
    show wpAny _ A ((compTurn (.ListComp elt [⟨.Name x0 p0, i0, [ct], 0⟩] scope pos) 0 it acc env).onRaise (fun x => do noteFrame x env; theTreesLotGoes x)) _ _ s
    refine wpAny_onRaise (any_noE ?_)
    rw [compTurn_list]
    refine wpAny_bind (wpAny_standAt (wpAny_bind (wpAny_mono (turn i s (by omega) hJ) (fun r s₁ h₁ => ?_) fun _ _ e => e)))
    obtain ⟨v, rfl, h₁⟩ := h₁
    refine wpAny_bind (wpAny_of_eq rfl ?_)
    refine wpAny_bind (wpAny_mono h₁ (fun _ s₂ h₂ => ?_) fun _ _ e => e)
    refine wpAny_bind (wpAny_tests_one (wpAny_mono h₂ (fun ok s₃ h₃ => ?_) fun _ _ e => e))
    cases ok with
    | false => exact wpAny_pure ⟨rfl, ih (i + 1) s₃ (by omega) (by omega) h₃⟩
    | true =>
      refine wpAny_bind (wpAny_bind (wpAny_mono h₃ (fun x s₄ h₄ => ?_) fun _ _ e => e))
      refine wpAny_bind (wpAny_mono h₄ (fun _ s₅ h₅ => ?_) fun _ _ e => e)
      exact wpAny_pure (wpAny_pure ⟨rfl, ih (i + 1) s₅ (by omega) (by omega) h₅⟩)
/-- a comprehension of one clause: its block entered -/
theorem ListComp_one {s : Shared} {h₀ : Heap} {L : Addr} {m : Str → Option Value} {ifs : List Expr} {cl : List (Str × Addr)} {Q : Value → Shared → Prop}
    (hclos : closureFor scope env = pure cl) (hcell : ∀ y ∈ scope.names, y.2 ≠ .cell) (hkind : scope.kind = .function) (hnames : ∀ y ∈ scope.names, y.2 = .local → scope.names.lookup y.1 = some .local)
    (h : wpAny (model prog w) A (eval i0 env) (fun xv s₁ => wpAny (model prog w) A (pyIter xv) (fun it s₂ => ∃ news, Fr h₀ L s₂.heap m ∧ News h₀ L s₂.heap news ∧
      (∀ (Q : Value → Shared → Prop) (E : Value → Shared → Prop) h tk, Fr h₀ L h m → News h₀ L h news → Q it { s₂ with heap := h, toks := tk } → wpAny (model prog w) A (pyIter it) Q E { s₂ with heap := h, toks := tk }) ∧
      ∀ C D oC mC h tk, Fr h₀ L h m → News h₀ L h ((C, oC) :: (D, LCg.lst []) :: news) → LCg.NsObj oC mC → Off D news → Off C news → @LT.lt Nat _ D C →
        codeAny (model prog w) A (.compLoop (.ListComp elt [⟨.Name x0 p0, i0, ifs, 0⟩] scope pos) 0 it (.ref D) (compEnvC scope cl C env))
          (Ret fun _ s' => ∃ oC' m' news', Fr h₀ L s'.heap m ∧ News h₀ L s'.heap ((C, oC') :: news') ∧ LCg.NsObj oC' m' ∧ Off C news' ∧ ∀ h', Fr h₀ L h' m → News h₀ L h' news' → Q (.ref D) { s' with heap := h' }) { s₂ with heap := h, toks := tk }) E s₁) E s)
    (hs : ∀ x, foldedSetIterable i0 env x = pure x := by intro _; rfl) :
    wpAny (model prog w) A (eval (.ListComp elt [⟨.Name x0 p0, i0, ifs, 0⟩] scope pos) env) Q E s := by
  rw [eval_ListComp]
  refine wpAny_comprehension_free (use := none) rfl hs hclos hkind hnames (wpAny_mono h (fun xv s₁ h₁ => wpAny_mono h₁ (fun it s₂ h₂ => ?_) fun _ _ e => e) fun _ _ e => e)
  obtain ⟨news, F, N, self, k⟩ := h₂
  refine wpAny_newObj_type (wpAny_newFunctionEnv hcell (by intro y hy; simp at hy) (fun h₁ hns₁ hsb₁ => ?_) hkind)
  dsimp only at hns₁ hsb₁ ⊢
  have F2 := F.push { cls := .type "list", dict := none, data := .seq ([] : List Value).toArray }
  have N2 := News.push F N { cls := .type "list", dict := none, data := .seq ([] : List Value).toArray } rfl
  have hz2 : (s₂.heap.push { cls := .type "list", dict := none, data := .seq ([] : List Value).toArray }).objs.size = s₂.heap.objs.size + 1 := Heap.size_push ..
  have hlt := news_lt N
  have hL := fr_lt F
  generalize s₂.heap.push { cls := .type "list", dict := none, data := .seq ([] : List Value).toArray } = H2 at *
  obtain ⟨oC, e1, e2⟩ := LCg.ns_obj hns₁
  have hC0 : h₀.get? H2.objs.size = none := fresh_none F2 (Nat.le_refl _)
  have k12 : Kp H2 h₁ := fun b o e => hsb₁.extBut b o (Nat.ne_of_lt (Heap.lt_size e)) (Heap.get?_push_of_some _ e)
  have offD : Off s₂.heap.objs.size news := fun b hb => by
    obtain ⟨p, hp, rfl⟩ := List.mem_map.mp hb
    exact Nat.ne_of_lt (hlt p hp)
  have offC : Off H2.objs.size news := fun b hb => by
    obtain ⟨p, hp, rfl⟩ := List.mem_map.mp hb
    have := hlt p hp
    rw [hz2]
    exact Nat.ne_of_lt (Nat.lt_succ_of_lt this)
  have F1 := fr_kp F2 k12
  have N1 := news_cons e1 (show @Ne Nat H2.objs.size L by rw [hz2]; omega) hC0 (news_kp N2 k12)
  have loop := codeAny_mono (k H2.objs.size s₂.heap.objs.size oC _ h₁ (s₂.toks + ([] : List (Str × Value)).length) F1 N1 e2 offD offC (by rw [hz2]; omega)) (R' := fun r s' => compPost (model prog w) A E none Q (.ref s₂.heap.objs.size) H2.objs.size r s') fun r s' hr => by
    cases r with
    | error e => exact hr.elim
    | ok f =>
      obtain ⟨oC', m', news', F', N', hC', off', fin⟩ := hr
      obtain ⟨g1, g2, g3⟩ := N' _ (.head _)
      exact ⟨m', hC'.ns g1, fun h'' hs'' => fin h'' (fr_but F' (same_but hs'') (nin1 (Ne.symm g2)) (all1 g3)) (news_but (news_tl N') (same_but hs'') off'.nin)⟩
  exact codeAny_compStart_list loop (self _ _ h₁ _ F1 (news_tl (news_tl N1)) loop)
end
end
/-! Comp6 -/
section
set_option maxRecDepth 100000
set_option maxHeartbeats 4000000
/-- an expression's end in a comprehension: the ledger as it was -/
def CEnd (s₂ : Shared) (h₀ : Heap) (L : Addr) (m : Str → Option Value) (news : List (Addr × Obj)) (G : Value → Prop) (y : Value) (s' : Shared) : Prop :=
  ∃ h' tk', s' = { s₂ with heap := h', toks := tk' } ∧ Fr h₀ L h' m ∧ News h₀ L h' news ∧ G y
def TEnd (s₂ : Shared) (h₀ : Heap) (L : Addr) (m : Str → Option Value) (news : List (Addr × Obj)) (b : Bool) (ok : Bool) (s' : Shared) : Prop :=
  ∃ h' tk', s' = { s₂ with heap := h', toks := tk' } ∧ Fr h₀ L h' m ∧ News h₀ L h' news ∧ ok = b
/-- where a comprehension's items come from -/
def CSrc (prog : Program) (w : World) (A : Around) (h₀ : Heap) (L : Addr) (m : Str → Option Value) (env : Env) (elt : Expr) (x : Str) (scope : Scope) (cl : List (Str × Addr)) (Q : Value → Shared → Prop) (it : Value) (s₂ : Shared) : Prop :=
  ∃ I fp n P St oI rest, ∃ G : Nat → Value → Prop, it = .ref I ∧ Walks prog w A I fp [I] n P St ∧ n ≤ sizeLine ∧ St 0 s₂.heap ∧ (∀ i h, St i h → ∃ o, h.get? I = some o) ∧ (∀ b ∈ fp, b = I ∨ (∃ ob, (b, ob) ∈ rest) ∨ ∃ ob, h₀.get? b = some ob) ∧
    Fr h₀ L s₂.heap m ∧ News h₀ L s₂.heap ((I, oI) :: rest) ∧ Off I rest ∧
    (∀ i v C oC D mC ys oI h tk, i < n → P i v → Fr h₀ L h m → News h₀ L h ((C, oC) :: (D, LCg.lst ys) :: (I, oI) :: rest) → LCg.NsObj oC mC → mC x = some v →
      wpAny (model prog w) A (eval elt (compEnvC scope cl C env)) (CEnd s₂ h₀ L m ((C, oC) :: (D, LCg.lst ys) :: (I, oI) :: rest) (G i)) NoE { s₂ with heap := h, toks := tk }) ∧
    ∀ D h tk ys, Fr h₀ L h m → News h₀ L h ((D, LCg.lst ys) :: rest) → Off D rest → ys.length = n → (∀ (i : Nat) y, ys[i]? = some y → G i y) → Q (.ref D) { s₂ with heap := h, toks := tk }
def CSrcT (prog : Program) (w : World) (A : Around) (h₀ : Heap) (L : Addr) (m : Str → Option Value) (env : Env) (ct elt : Expr) (x : Str) (scope : Scope) (cl : List (Str × Addr)) (Q : Value → Shared → Prop) (it : Value) (s₂ : Shared) : Prop :=
  ∃ I fp n P St oI rest, ∃ p : Nat → Bool, it = .ref I ∧ Walks prog w A I fp [I] n P St ∧ n ≤ sizeLine ∧ St 0 s₂.heap ∧ (∀ i h, St i h → ∃ o, h.get? I = some o) ∧ (∀ b ∈ fp, b = I ∨ (∃ ob, (b, ob) ∈ rest) ∨ ∃ ob, h₀.get? b = some ob) ∧
    Fr h₀ L s₂.heap m ∧ News h₀ L s₂.heap ((I, oI) :: rest) ∧ Off I rest ∧
    (∀ i v C oC D mC ys oI h tk, i < n → P i v → Fr h₀ L h m → News h₀ L h ((C, oC) :: (D, LCg.lst ys) :: (I, oI) :: rest) → LCg.NsObj oC mC → mC x = some v →
      wpAny (model prog w) A (isTrue ct (compEnvC scope cl C env) (eval ct (compEnvC scope cl C env))) (TEnd s₂ h₀ L m ((C, oC) :: (D, LCg.lst ys) :: (I, oI) :: rest) (p i)) NoE { s₂ with heap := h, toks := tk }) ∧
    (∀ i v C oC D mC ys oI h tk, i < n → P i v → Fr h₀ L h m → News h₀ L h ((C, oC) :: (D, LCg.lst ys) :: (I, oI) :: rest) → LCg.NsObj oC mC → mC x = some v →
      wpAny (model prog w) A (eval elt (compEnvC scope cl C env)) (CEnd s₂ h₀ L m ((C, oC) :: (D, LCg.lst ys) :: (I, oI) :: rest) (fun _ => True)) NoE { s₂ with heap := h, toks := tk }) ∧
    ∀ D h tk ys, Fr h₀ L h m → News h₀ L h ((D, LCg.lst ys) :: rest) → Off D rest → ys.length = ((List.range n).filter p).length → Q (.ref D) { s₂ with heap := h, toks := tk }
theorem off_cons {I a : Addr} {o : Obj} {rest : List (Addr × Obj)} (h : @Ne Nat a I) (hr : Off I rest) : Off I ((a, o) :: rest) := by
  intro b hb
  rcases List.mem_cons.mp hb with rfl | hb
  · exact h
  · exact hr b hb
theorem off_of {I : Addr} {a : Addr} {o : Obj} {rest : List (Addr × Obj)} (h : Off I ((a, o) :: rest)) : @Ne Nat a I ∧ Off I rest := ⟨h _ (.head _), fun b hb => h b (.tail _ hb)⟩
theorem swap12 {p q : Addr × Obj} {l : List (Addr × Obj)} : ∀ x ∈ q :: p :: l, x ∈ p :: q :: l := by
  intro x hx
  rcases List.mem_cons.mp hx with rfl | hx
  · exact .tail _ (.head _)
  rcases List.mem_cons.mp hx with rfl | hx
  · exact .head _
  · exact .tail _ (.tail _ hx)
theorem rot3 {p q r : Addr × Obj} {l : List (Addr × Obj)} : ∀ x ∈ r :: p :: q :: l, x ∈ p :: q :: r :: l := by
  intro x hx
  rcases List.mem_cons.mp hx with rfl | hx
  · exact .tail _ (.tail _ (.head _))
  rcases List.mem_cons.mp hx with rfl | hx
  · exact .head _
  rcases List.mem_cons.mp hx with rfl | hx
  · exact .tail _ (.head _)
  · exact .tail _ (.tail _ (.tail _ hx))
theorem rot3' {p q r : Addr × Obj} {l : List (Addr × Obj)} : ∀ x ∈ p :: q :: r :: l, x ∈ r :: p :: q :: l := by
  intro x hx
  rcases List.mem_cons.mp hx with rfl | hx
  · exact .tail _ (.head _)
  rcases List.mem_cons.mp hx with rfl | hx
  · exact .tail _ (.tail _ (.head _))
  rcases List.mem_cons.mp hx with rfl | hx
  · exact .head _
  · exact .tail _ (.tail _ (.tail _ hx))
section
variable {prog : Program} {w : World} {A : Around} {E : Value → Shared → Prop} {env : Env} {elt i0 : Expr} {x0 : Str} {p0 : Pos} {scope : Scope} {pos : Pos} {s : Shared} {h₀ : Heap} {L : Addr} {m : Str → Option Value} {cl : List (Str × Addr)} {Q : Value → Shared → Prop}
/-- the walk's footprint stands, whatever is made besides -/
theorem st_keep {I : Addr} {fp : List Addr} {n : Nat} {P : Nat → Value → Prop} {St : Nat → Heap → Prop} {oI : Obj} {rest : List (Addr × Obj)} {i : Nat} {h h' : Heap} (W : Walks prog w A I fp [I] n P St) (hst : St i h)
    (hfp : ∀ b ∈ fp, b = I ∨ (∃ ob, (b, ob) ∈ rest) ∨ ∃ ob, h₀.get? b = some ob) (F : Fr h₀ L h m) (F' : Fr h₀ L h' m) (N : News h₀ L h ((I, oI) :: rest)) (N' : News h₀ L h' ((I, oI) :: rest)) : St i h' := by
  refine W.frame _ _ _ hst fun b hb o e => ?_
  rcases hfp b hb with rfl | ⟨ob, hm⟩ | ⟨ob, hm⟩
  · have e1 := (N _ (.head _)).1
    rw [e] at e1
    cases e1
    exact (N' _ (.head _)).1
  · have e1 := (N _ (.tail _ hm)).1
    rw [show h.get? b = some o from e] at e1
    cases e1
    exact (N' _ (.tail _ hm)).1
  · have e1 := F.keep _ _ hm
    rw [e] at e1
    cases e1
    exact F'.keep _ _ hm
theorem LC (hclos : closureFor scope env = pure cl) (hcell : ∀ y ∈ scope.names, y.2 ≠ .cell) (hkind : scope.kind = .function) (hnames : ∀ y ∈ scope.names, y.2 = .local → scope.names.lookup y.1 = some .local) (hx : scope.names.lookup x0 = some .local)
    (h : wpAny (model prog w) A (eval i0 env) (fun xv s₁ => wpAny (model prog w) A (pyIter xv) (CSrc prog w A h₀ L m env elt x0 scope cl Q) E s₁) E s)
    (hs : ∀ x, foldedSetIterable i0 env x = pure x := by intro _; rfl) :
    wpAny (model prog w) A (eval (.ListComp elt [⟨.Name x0 p0, i0, [], 0⟩] scope pos) env) Q E s := by
  refine ListComp_one (h₀ := h₀) (L := L) (m := m) hclos hcell hkind hnames (wpAny_mono h (fun xv s₁ h₁ => wpAny_mono h₁ (fun it s₂ h₂ => ?_) fun _ _ e => e) fun _ _ e => e) hs
  obtain ⟨I, fp, n, P, St, oI, rest, G, rfl, W, hsz, hst, hIo, hfp, F, N, off, he, fin⟩ := h₂
  refine ⟨_, F, N, fun Q E h tk F' N' q => W.self 0 _ _ _ (st_keep (h' := h) W hst hfp F F' N N') q, ?_⟩
  intro C D oC mC h tk F1 N1 hC offD offC hDC
  have hst1 : St 0 h := st_keep W hst hfp F F1 N (news_tl (news_tl N1))
  obtain ⟨hID, offD'⟩ := off_of offD
  obtain ⟨hIC, offC'⟩ := off_of offC
  have hCf : C ∉ fp := by
    intro hb
    rcases hfp C hb with rfl | ⟨ob, hm⟩ | ⟨ob, hm⟩
    · exact hIC rfl
    · exact offC' C (List.mem_map.mpr ⟨_, hm, rfl⟩) rfl
    · have := (N1 _ (.head _)).2.2
      rw [show h₀.get? C = some ob from hm] at this; cases this
  have hDf : D ∉ fp := by
    intro hb
    rcases hfp D hb with rfl | ⟨ob, hm⟩ | ⟨ob, hm⟩
    · exact hID rfl
    · exact offD' D (List.mem_map.mpr ⟨_, hm, rfl⟩) rfl
    · have := (N1 _ (.tail _ (.head _))).2.2
      rw [show h₀.get? D = some ob from hm] at this; cases this
  refine loop_one n (fun i s' => ∃ h tk oI oC mC ys, s' = { s₂ with heap := h, toks := tk } ∧ Fr h₀ L h m ∧ News h₀ L h ((C, oC) :: (D, LCg.lst ys) :: (I, oI) :: rest) ∧ St i h ∧ LCg.NsObj oC mC ∧ ys.length = i ∧ ∀ (j : Nat) y, ys[j]? = some y → G j y) ?_ ?_ n 0 _ rfl (Nat.zero_le _)
    ⟨h, tk, oI, oC, mC, [], rfl, F1, N1, hst1, hC, rfl, fun j y e => by simp at e⟩
  · rintro i s' hi ⟨h, tk, oI, oC, mC, ys, rfl, F2, N2, hst2, hC2, hlen, hG⟩
    refine W.item i ⟨h, _, _, _, _⟩ _ _ hi hst2 fun v h3 tk3 hP hst3 hk3 => ⟨v, rfl, ?_⟩
    obtain ⟨gI, gIL, gI0⟩ := N2 _ (.tail _ (.tail _ (.head _)))
    obtain ⟨oI3, hoI3⟩ := hIo _ _ hst3
    have F3 : Fr h₀ L h3 m := fr_but F2 hk3 (nin1 (Ne.symm gIL)) (all1 gI0)
    have N3 : News h₀ L h3 ((C, oC) :: (D, LCg.lst ys) :: (I, oI3) :: rest) := by
      have z : News h₀ L h3 ((C, oC) :: (D, LCg.lst ys) :: rest) := news_but (fun p hp => N2 p (by
        rcases List.mem_cons.mp hp with rfl | hp
        · exact .head _
        rcases List.mem_cons.mp hp with rfl | hp
        · exact .tail _ (.head _)
        · exact .tail _ (.tail _ (.tail _ hp)))) hk3 (off_cons (Ne.symm hIC) (off_cons (Ne.symm hID) off)).nin
      intro p hp
      rcases List.mem_cons.mp hp with rfl | hp
      · exact z _ (.head _)
      rcases List.mem_cons.mp hp with rfl | hp
      · exact z _ (.tail _ (.head _))
      rcases List.mem_cons.mp hp with rfl | hp
      · exact ⟨hoI3, gIL, gI0⟩
      · exact z _ (.tail _ (.tail _ hp))
    refine wpAny_assign_Name (store_C (s := ⟨h3, _, _, _, _⟩) F3 N3 hC2 (off_cons (Nat.ne_of_lt hDC) (off_cons hIC offC')) (fun h4 oC4 m4 F4 N4 hC4 hx4 => ?_) (lookup_relabel_local hx) (by simp [compEnvC, relabel, hkind]))
    have hst4 : St (i + 1) h4 := st_keep W hst3 hfp F3 F4 (news_tl (news_tl N3)) (news_tl (news_tl N4))
    refine wpAny_mono (he i v C oC4 D m4 ys oI3 h4 _ hi hP F4 N4 hC4 hx4) (fun y s5 h5 => ?_) fun _ _ e => e
    obtain ⟨h5, tk5, rfl, F5, N5, hy⟩ := h5
    have hst5 : St (i + 1) h5 := st_keep W hst4 hfp F4 F5 (news_tl (news_tl N4)) (news_tl (news_tl N5))
    refine append_L (s := ⟨h5, _, _, _, _⟩) F5 (news_sub N5 swap12) (off_cons (Nat.ne_of_gt hDC) (off_cons hID offD')) (by omega) fun h6 F6 N6 => ?_
    refine ⟨h6, _, oI3, oC4, m4, _, rfl, F6, news_sub N6 swap12, ?_, hC4, by simp [hlen], ?_⟩
    · exact st_keep W hst5 hfp F5 F6 (news_tl (news_tl N5)) (news_tl (news_tl N6))
    · intro j z hz
      by_cases hj : j < ys.length
      · rw [List.getElem?_append_left hj] at hz; exact hG j z hz
      · have hjl : j = ys.length := by
          have := (List.getElem?_eq_some_iff.mp hz).1
          rw [List.length_append, List.length_singleton] at this; omega
        subst hjl
        simp at hz
        subst hz
        rw [hlen]; exact hy
  · rintro s' ⟨h, tk, oI, oC, mC, ys, rfl, F2, N2, hst2, hC2, hlen, hG⟩
    refine W.done ⟨h, _, _, _, _⟩ _ _ hst2 fun h3 tk3 hk3 => ⟨rfl, ?_⟩
    obtain ⟨gI, gIL, gI0⟩ := N2 _ (.tail _ (.tail _ (.head _)))
    have F3 : Fr h₀ L h3 m := fr_but F2 hk3 (nin1 (Ne.symm gIL)) (all1 gI0)
    have N3 : News h₀ L h3 ((C, oC) :: (D, LCg.lst ys) :: rest) := news_but (fun p hp => N2 p (by
        rcases List.mem_cons.mp hp with rfl | hp
        · exact .head _
        rcases List.mem_cons.mp hp with rfl | hp
        · exact .tail _ (.head _)
        · exact .tail _ (.tail _ (.tail _ hp)))) hk3 (off_cons (Ne.symm hIC) (off_cons (Ne.symm hID) off)).nin
    exact ⟨oC, mC, _, F3, N3, hC2, off_cons (Nat.ne_of_lt hDC) offC', fun h4 F4 N4 => fin D h4 tk3 ys F4 N4 offD' hlen hG⟩
theorem LCT {ct : Expr} (hclos : closureFor scope env = pure cl) (hcell : ∀ y ∈ scope.names, y.2 ≠ .cell) (hkind : scope.kind = .function) (hnames : ∀ y ∈ scope.names, y.2 = .local → scope.names.lookup y.1 = some .local) (hx : scope.names.lookup x0 = some .local)
    (h : wpAny (model prog w) A (eval i0 env) (fun xv s₁ => wpAny (model prog w) A (pyIter xv) (CSrcT prog w A h₀ L m env ct elt x0 scope cl Q) E s₁) E s)
    (hs : ∀ x, foldedSetIterable i0 env x = pure x := by intro _; rfl) :
    wpAny (model prog w) A (eval (.ListComp elt [⟨.Name x0 p0, i0, [ct], 0⟩] scope pos) env) Q E s := by
  refine ListComp_one (h₀ := h₀) (L := L) (m := m) hclos hcell hkind hnames (wpAny_mono h (fun xv s₁ h₁ => wpAny_mono h₁ (fun it s₂ h₂ => ?_) fun _ _ e => e) fun _ _ e => e) hs
  obtain ⟨I, fp, n, P, St, oI, rest, p, rfl, W, hsz, hst, hIo, hfp, F, N, off, ht, he, fin⟩ := h₂
  refine ⟨_, F, N, fun Q E h tk F' N' q => W.self 0 _ _ _ (st_keep (h' := h) W hst hfp F F' N N') q, ?_⟩
  intro C D oC mC h tk F1 N1 hC offD offC hDC
  have hst1 : St 0 h := st_keep W hst hfp F F1 N (news_tl (news_tl N1))
  obtain ⟨hID, offD'⟩ := off_of offD
  obtain ⟨hIC, offC'⟩ := off_of offC
  refine loop_oneT n (fun i s' => ∃ h tk oI oC mC ys, s' = { s₂ with heap := h, toks := tk } ∧ Fr h₀ L h m ∧ News h₀ L h ((C, oC) :: (D, LCg.lst ys) :: (I, oI) :: rest) ∧ St i h ∧ LCg.NsObj oC mC ∧ ys.length = ((List.range i).filter p).length) ?_ ?_ n 0 _ rfl (Nat.zero_le _)
    ⟨h, tk, oI, oC, mC, [], rfl, F1, N1, hst1, hC, rfl⟩
  · rintro i s' hi ⟨h, tk, oI, oC, mC, ys, rfl, F2, N2, hst2, hC2, hlen⟩
    refine W.item i ⟨h, _, _, _, _⟩ _ _ hi hst2 fun v h3 tk3 hP hst3 hk3 => ⟨v, rfl, ?_⟩
    obtain ⟨gI, gIL, gI0⟩ := N2 _ (.tail _ (.tail _ (.head _)))
    obtain ⟨oI3, hoI3⟩ := hIo _ _ hst3
    have F3 : Fr h₀ L h3 m := fr_but F2 hk3 (nin1 (Ne.symm gIL)) (all1 gI0)
    have N3 : News h₀ L h3 ((C, oC) :: (D, LCg.lst ys) :: (I, oI3) :: rest) := by
      have z : News h₀ L h3 ((C, oC) :: (D, LCg.lst ys) :: rest) := news_but (fun p hp => N2 p (by
        rcases List.mem_cons.mp hp with rfl | hp
        · exact .head _
        rcases List.mem_cons.mp hp with rfl | hp
        · exact .tail _ (.head _)
        · exact .tail _ (.tail _ (.tail _ hp)))) hk3 (off_cons (Ne.symm hIC) (off_cons (Ne.symm hID) off)).nin
      intro p hp
      rcases List.mem_cons.mp hp with rfl | hp
      · exact z _ (.head _)
      rcases List.mem_cons.mp hp with rfl | hp
      · exact z _ (.tail _ (.head _))
      rcases List.mem_cons.mp hp with rfl | hp
      · exact ⟨hoI3, gIL, gI0⟩
      · exact z _ (.tail _ (.tail _ hp))
    refine wpAny_assign_Name (store_C (s := ⟨h3, _, _, _, _⟩) F3 N3 hC2 (off_cons (Nat.ne_of_lt hDC) (off_cons hIC offC')) (fun h4 oC4 m4 F4 N4 hC4 hx4 => ?_) (lookup_relabel_local hx) (by simp [compEnvC, relabel, hkind]))
    have hst4 : St (i + 1) h4 := st_keep W hst3 hfp F3 F4 (news_tl (news_tl N3)) (news_tl (news_tl N4))
    refine wpAny_mono (ht i v C oC4 D m4 ys oI3 h4 _ hi hP F4 N4 hC4 hx4) (fun ok s5 h5 => ?_) fun _ _ e => e
    obtain ⟨h5, tk5, rfl, F5, N5, rfl⟩ := h5
    have hst5 : St (i + 1) h5 := st_keep W hst4 hfp F4 F5 (news_tl (news_tl N4)) (news_tl (news_tl N5))
    have er : ((List.range (i + 1)).filter p).length = ((List.range i).filter p).length + (if p i = true then 1 else 0) := by
      rw [List.range_succ, List.filter_append, List.length_append]
      cases hp : p i <;> simp [hp]
    split
    · rename_i hp
      rw [if_pos hp] at er
      refine wpAny_mono (he i v C oC4 D m4 ys oI3 h5 _ hi hP F5 N5 hC4 hx4) (fun y s6 h6 => ?_) fun _ _ e => e
      obtain ⟨h6, tk6, rfl, F6, N6, _⟩ := h6
      have hst6 : St (i + 1) h6 := st_keep W hst5 hfp F5 F6 (news_tl (news_tl N5)) (news_tl (news_tl N6))
      have hle : ((List.range i).filter p).length ≤ i := Nat.le_trans (List.length_filter_le _ _) (by rw [List.length_range]; exact Nat.le_refl _)
      refine append_L (s := ⟨h6, _, _, _, _⟩) F6 (news_sub N6 swap12) (off_cons (Nat.ne_of_gt hDC) (off_cons hID offD')) (by omega) fun h7 F7 N7 => ?_
      refine ⟨h7, _, oI3, oC4, m4, _, rfl, F7, news_sub N7 swap12, ?_, hC4, by rw [er, List.length_append, hlen]; rfl⟩
      exact st_keep W hst6 hfp F6 F7 (news_tl (news_tl N6)) (news_tl (news_tl N7))
    · rename_i hp
      rw [if_neg hp] at er
      exact ⟨h5, _, oI3, oC4, m4, ys, rfl, F5, N5, hst5, hC4, by rw [er, hlen]; rfl⟩
  · rintro s' ⟨h, tk, oI, oC, mC, ys, rfl, F2, N2, hst2, hC2, hlen⟩
    refine W.done ⟨h, _, _, _, _⟩ _ _ hst2 fun h3 tk3 hk3 => ⟨rfl, ?_⟩
    obtain ⟨gI, gIL, gI0⟩ := N2 _ (.tail _ (.tail _ (.head _)))
    have F3 : Fr h₀ L h3 m := fr_but F2 hk3 (nin1 (Ne.symm gIL)) (all1 gI0)
    have N3 : News h₀ L h3 ((C, oC) :: (D, LCg.lst ys) :: rest) := news_but (fun p hp => N2 p (by
        rcases List.mem_cons.mp hp with rfl | hp
        · exact .head _
        rcases List.mem_cons.mp hp with rfl | hp
        · exact .tail _ (.head _)
        · exact .tail _ (.tail _ (.tail _ hp)))) hk3 (off_cons (Ne.symm hIC) (off_cons (Ne.symm hID) off)).nin
    exact ⟨oC, mC, _, F3, N3, hC2, off_cons (Nat.ne_of_lt hDC) offC', fun h4 F4 N4 => fin D h4 tk3 ys F4 N4 offD' hlen⟩
end
end
/-! Comp7 -/
section
set_option maxRecDepth 100000
set_option maxHeartbeats 4000000
section
variable {prog : Program} {w : World} {A : Around} {E : Value → Shared → Prop} {env : Env} {elt ct : Expr} {x : Str} {scope : Scope} {s : Shared} {h₀ : Heap} {L : Addr} {m : Str → Option Value} {cl : List (Str × Addr)} {Q : Value → Shared → Prop} {news : List (Addr × Obj)}
theorem src_list {l : Addr} {items : Array Value} (G : Nat → Value → Prop) (hh : A.handled = none) (F : Fr h₀ L s.heap m) (N : News h₀ L s.heap news) (hl : (∃ n, (l, W.listOf items n) ∈ news) ∨ h₀.IsList l items) (hsz : items.size ≤ sizeLine)
    (he : ∀ I oI g i v C oC D mC ys h tk, i < items.size → items[i]? = some v → Fr h₀ L h m → News h₀ L h ((C, oC) :: (D, LCg.lst ys) :: (I, oI) :: news) → LCg.NsObj oC mC → mC x = some v →
      wpAny (model prog w) A (eval elt (compEnvC scope cl C env)) (CEnd { s with heap := g } h₀ L m ((C, oC) :: (D, LCg.lst ys) :: (I, oI) :: news) (G i)) NoE { s with heap := h, toks := tk })
    (fin : ∀ D h tk ys, Fr h₀ L h m → News h₀ L h ((D, LCg.lst ys) :: news) → Off D news → ys.length = items.size → (∀ (i : Nat) y, ys[i]? = some y → G i y) → Q (.ref D) { s with heap := h, toks := tk }) :
    wpAny (model prog w) A (pyIter (.ref l)) (CSrc prog w A h₀ L m env elt x scope cl Q) E s := by
  have hll : s.heap.IsList l items := by
    rcases hl with ⟨n, hm⟩ | ⟨o, e, r⟩
    · exact N.isList hm
    · exact ⟨o, F.keep _ _ e, r⟩
  have hlt : @LT.lt Nat _ l s.heap.objs.size := by obtain ⟨o, e, _⟩ := hll; exact Heap.lt_size e
  refine wpAny_pyIter_list hll ?_
  refine ⟨s.heap.objs.size, [s.heap.objs.size, l], items.size, _, _, _, news, G, rfl, Walks.list hh s.heap.objs.size l (Nat.ne_of_lt hlt) items, hsz, ⟨⟨_, Heap.get?_push_size _ rfl, rfl, rfl⟩, hll.push _⟩, fun i h st => let ⟨o, e, _⟩ := st.1; ⟨o, e⟩, ?_, F.push _, News.push F N _ rfl, ?_, ?_, fin⟩
  · intro b hb
    rcases List.mem_cons.mp hb with rfl | hb
    · exact .inl rfl
    rcases List.mem_cons.mp hb with rfl | hb
    · rcases hl with ⟨n, hm⟩ | ⟨o, e, r⟩
      · exact .inr (.inl ⟨_, hm⟩)
      · exact .inr (.inr ⟨_, e⟩)
    · cases hb
  · intro b hb
    obtain ⟨p, hp, rfl⟩ := List.mem_map.mp hb
    exact Nat.ne_of_lt (news_lt N p hp)
  · intro i v C oC D mC ys oI h tk hi hP F1 N1 hC hx
    exact he _ oI _ i v C oC D mC ys h tk hi hP F1 N1 hC hx
theorem src_tuple {l : Addr} {ot : Obj} {items : Array Value} {nt : Nat} (G : Nat → Value → Prop) (hh : A.handled = none) (F : Fr h₀ L s.heap m) (N : News h₀ L s.heap news) (hl : (l, ot) ∈ news) (hc : ot.cls = .type "tuple") (hd : ot.data = .seq items nt) (hsz : items.size ≤ sizeLine)
    (he : ∀ I oI g i v C oC D mC ys h tk, i < items.size → items[i]? = some v → Fr h₀ L h m → News h₀ L h ((C, oC) :: (D, LCg.lst ys) :: (I, oI) :: news) → LCg.NsObj oC mC → mC x = some v →
      wpAny (model prog w) A (eval elt (compEnvC scope cl C env)) (CEnd { s with heap := g } h₀ L m ((C, oC) :: (D, LCg.lst ys) :: (I, oI) :: news) (G i)) NoE { s with heap := h, toks := tk })
    (fin : ∀ D h tk ys, Fr h₀ L h m → News h₀ L h ((D, LCg.lst ys) :: news) → Off D news → ys.length = items.size → (∀ (i : Nat) y, ys[i]? = some y → G i y) → Q (.ref D) { s with heap := h, toks := tk }) :
    wpAny (model prog w) A (pyIter (.ref l)) (CSrc prog w A h₀ L m env elt x scope cl Q) E s := by
  have hlt : @LT.lt Nat _ l s.heap.objs.size := Heap.lt_size (N _ hl).1
  have hll : s.heap.IsTuple l items := ⟨ot, (N _ hl).1, hc, nt, hd⟩
  refine wpAny_pyIter_tuple hll ?_
  refine ⟨s.heap.objs.size, _, items.size, _, _, _, news, G, rfl, Walks.tuple hh s.heap.objs.size l (Nat.ne_of_lt hlt) items, hsz, ⟨⟨_, Heap.get?_push_size _ rfl, rfl, rfl⟩, hll.push _⟩, fun i h st => let ⟨o, e, _⟩ := st.1; ⟨o, e⟩, ?_, F.push _, News.push F N _ rfl, ?_, ?_, fin⟩
  · intro b hb
    rcases List.mem_cons.mp hb with rfl | hb
    · exact .inl rfl
    rcases List.mem_cons.mp hb with rfl | hb
    · exact .inr (.inl ⟨_, hl⟩)
    · cases hb
  · intro b hb
    obtain ⟨p, hp, rfl⟩ := List.mem_map.mp hb
    exact Nat.ne_of_lt (news_lt N p hp)
  · intro i v C oC D mC ys oI h tk hi hP F1 N1 hC hx
    exact he _ oI _ i v C oC D mC ys h tk hi hP F1 N1 hC hx
theorem src_range {r : Addr} {a b : Int} {t u v : Tok} (n : Nat) (G : Nat → Value → Prop) (hh : A.handled = none) (F : Fr h₀ L s.heap m) (N : News h₀ L s.heap news) (hr : IsRange s.heap r a b 1 t u v) (hsm : Builtin.Range.small a b 1 = true) (hn : Builtin.Range.rangeSize a b 1 = ((n : Nat) : Int)) (hsz : n ≤ sizeLine)
    (he : ∀ I oI g i tv C oC D mC ys h tk, i < n → Fr h₀ L h m → News h₀ L h ((C, oC) :: (D, LCg.lst ys) :: (I, oI) :: news) → LCg.NsObj oC mC → mC x = some (.int (a + (i : Int)) tv) →
      wpAny (model prog w) A (eval elt (compEnvC scope cl C env)) (CEnd { s with heap := g } h₀ L m ((C, oC) :: (D, LCg.lst ys) :: (I, oI) :: news) (G i)) NoE { s with heap := h, toks := tk })
    (fin : ∀ D h tk ys, Fr h₀ L h m → News h₀ L h ((D, LCg.lst ys) :: news) → Off D news → ys.length = n → (∀ (i : Nat) y, ys[i]? = some y → G i y) → Q (.ref D) { s with heap := h, toks := tk }) :
    wpAny (model prog w) A (pyIter (.ref r)) (CSrc prog w A h₀ L m env elt x scope cl Q) E s := by
  refine wpAny_pyIter_range hr hsm ?_
  refine ⟨s.heap.objs.size, _, n, _, _, _, news, G, rfl, LCg.range_walks (I := s.heap.objs.size) hh a n, hsz, by rw [hn]; simpa using Heap.get?_push_size _ rfl, fun i h st => ⟨_, st⟩, ?_, F.push _, News.push F N _ rfl, ?_, ?_, fin⟩
  · intro b hb
    rcases List.mem_cons.mp hb with rfl | hb
    · exact .inl rfl
    · cases hb
  · intro b hb
    obtain ⟨p, hp, rfl⟩ := List.mem_map.mp hb
    exact Nat.ne_of_lt (news_lt N p hp)
  · rintro i v C oC D mC ys oI h tk hi ⟨tv, rfl⟩ F1 N1 hC hx
    exact he _ oI _ i tv C oC D mC ys h tk hi F1 N1 hC hx
theorem src_rangeT {r : Addr} {a b : Int} {t u v : Tok} (n : Nat) (p : Nat → Bool) (hh : A.handled = none) (F : Fr h₀ L s.heap m) (N : News h₀ L s.heap news) (hr : IsRange s.heap r a b 1 t u v) (hsm : Builtin.Range.small a b 1 = true) (hn : Builtin.Range.rangeSize a b 1 = ((n : Nat) : Int)) (hsz : n ≤ sizeLine)
    (ht : ∀ I oI g i tv C oC D mC ys h tk, i < n → Fr h₀ L h m → News h₀ L h ((C, oC) :: (D, LCg.lst ys) :: (I, oI) :: news) → LCg.NsObj oC mC → mC x = some (.int (a + (i : Int)) tv) →
      wpAny (model prog w) A (isTrue ct (compEnvC scope cl C env) (eval ct (compEnvC scope cl C env))) (TEnd { s with heap := g } h₀ L m ((C, oC) :: (D, LCg.lst ys) :: (I, oI) :: news) (p i)) NoE { s with heap := h, toks := tk })
    (he : ∀ I oI g i tv C oC D mC ys h tk, i < n → Fr h₀ L h m → News h₀ L h ((C, oC) :: (D, LCg.lst ys) :: (I, oI) :: news) → LCg.NsObj oC mC → mC x = some (.int (a + (i : Int)) tv) →
      wpAny (model prog w) A (eval elt (compEnvC scope cl C env)) (CEnd { s with heap := g } h₀ L m ((C, oC) :: (D, LCg.lst ys) :: (I, oI) :: news) (fun _ => True)) NoE { s with heap := h, toks := tk })
    (fin : ∀ D h tk ys, Fr h₀ L h m → News h₀ L h ((D, LCg.lst ys) :: news) → Off D news → ys.length = ((List.range n).filter p).length → Q (.ref D) { s with heap := h, toks := tk }) :
    wpAny (model prog w) A (pyIter (.ref r)) (CSrcT prog w A h₀ L m env ct elt x scope cl Q) E s := by
  refine wpAny_pyIter_range hr hsm ?_
  refine ⟨s.heap.objs.size, _, n, _, _, _, news, p, rfl, LCg.range_walks (I := s.heap.objs.size) hh a n, hsz, by rw [hn]; simpa using Heap.get?_push_size _ rfl, fun i h st => ⟨_, st⟩, ?_, F.push _, News.push F N _ rfl, ?_, ?_, ?_, fin⟩
  · intro b hb
    rcases List.mem_cons.mp hb with rfl | hb
    · exact .inl rfl
    · cases hb
  · intro b hb
    obtain ⟨p, hp, rfl⟩ := List.mem_map.mp hb
    exact Nat.ne_of_lt (news_lt N p hp)
  · rintro i v C oC D mC ys oI h tk hi ⟨tv, rfl⟩ F1 N1 hC hx
    exact ht _ oI _ i tv C oC D mC ys h tk hi F1 N1 hC hx
  · rintro i v C oC D mC ys oI h tk hi ⟨tv, rfl⟩ F1 N1 hC hx
    exact he _ oI _ i tv C oC D mC ys h tk hi F1 N1 hC hx
/-- the items of a made list of ints -/
theorem ints_of_at {ys : List Value} {ns : List Int} (hl : ys.length = ns.length) (h : ∀ (i : Nat) y, ys[i]? = some y → ∃ t, y = .int (ns.getD i 0) t) : IntsAre ys ns := by
  induction ys generalizing ns with
  | nil =>
    cases ns with
    | nil => exact .nil
    | cons _ _ => cases hl
  | cons y ys ih =>
    cases ns with
    | nil => cases hl
    | cons n ns =>
      obtain ⟨t, rfl⟩ := h 0 _ rfl
      exact .cons _ _ (ih (by simpa using hl) fun i z hz => h (i + 1) z (by simpa using hz))
end
theorem sub1 {l : List (Addr × Obj)} {p : Addr × Obj} (h1 : p ∈ l) : ∀ x ∈ [p], x ∈ l := by
  intro x hx
  simp only [List.mem_cons, List.not_mem_nil, or_false] at hx
  rcases hx with rfl; assumption
theorem sub_cons {l r : List (Addr × Obj)} {p : Addr × Obj} (h1 : p ∈ l) (h2 : ∀ x ∈ r, x ∈ l) : ∀ x ∈ p :: r, x ∈ l := by
  intro x hx
  rcases List.mem_cons.mp hx with rfl | hx
  · exact h1
  · exact h2 x hx
theorem sub2 {l : List (Addr × Obj)} {p q : Addr × Obj} (h1 : p ∈ l) (h2 : q ∈ l) : ∀ x ∈ [p, q], x ∈ l := sub_cons h1 (sub1 h2)
theorem sub3 {l : List (Addr × Obj)} {p q r : Addr × Obj} (h1 : p ∈ l) (h2 : q ∈ l) (h3 : r ∈ l) : ∀ x ∈ [p, q, r], x ∈ l := sub_cons h1 (sub2 h2 h3)
theorem sub4 {l : List (Addr × Obj)} {p q r t : Addr × Obj} (h1 : p ∈ l) (h2 : q ∈ l) (h3 : r ∈ l) (h4 : t ∈ l) : ∀ x ∈ [p, q, r, t], x ∈ l := sub_cons h1 (sub3 h2 h3 h4)
theorem sub5 {l : List (Addr × Obj)} {p q r t u : Addr × Obj} (h1 : p ∈ l) (h2 : q ∈ l) (h3 : r ∈ l) (h4 : t ∈ l) (h5 : u ∈ l) : ∀ x ∈ [p, q, r, t, u], x ∈ l := sub_cons h1 (sub4 h2 h3 h4 h5)
theorem sub6 {l : List (Addr × Obj)} {p q r t u v : Addr × Obj} (h1 : p ∈ l) (h2 : q ∈ l) (h3 : r ∈ l) (h4 : t ∈ l) (h5 : u ∈ l) (h6 : v ∈ l) : ∀ x ∈ [p, q, r, t, u, v], x ∈ l := sub_cons h1 (sub5 h2 h3 h4 h5 h6)
/-- places in a ledger -/
theorem at0 {l : List (Addr × Obj)} {a : Addr × Obj} : a ∈ a :: l := .head _
theorem at1 {l : List (Addr × Obj)} {a b : Addr × Obj} : b ∈ a :: b :: l := .tail _ (.head _)
theorem at2 {l : List (Addr × Obj)} {a b c : Addr × Obj} : c ∈ a :: b :: c :: l := .tail _ at1
theorem at3 {l : List (Addr × Obj)} {a b c d : Addr × Obj} : d ∈ a :: b :: c :: d :: l := .tail _ at2
theorem at4 {l : List (Addr × Obj)} {a b c d e : Addr × Obj} : e ∈ a :: b :: c :: d :: e :: l := .tail _ at3
theorem at5 {l : List (Addr × Obj)} {a b c d e f : Addr × Obj} : f ∈ a :: b :: c :: d :: e :: f :: l := .tail _ at4
theorem at6 {l : List (Addr × Obj)} {a b c d e f g : Addr × Obj} : g ∈ a :: b :: c :: d :: e :: f :: g :: l := .tail _ at5
theorem at7 {l : List (Addr × Obj)} {a b c d e f g i : Addr × Obj} : i ∈ a :: b :: c :: d :: e :: f :: g :: i :: l := .tail _ at6
theorem at8 {l : List (Addr × Obj)} {a b c d e f g i j : Addr × Obj} : j ∈ a :: b :: c :: d :: e :: f :: g :: i :: j :: l := .tail _ at7
theorem at9 {l : List (Addr × Obj)} {a b c d e f g i j k : Addr × Obj} : k ∈ a :: b :: c :: d :: e :: f :: g :: i :: j :: k :: l := .tail _ at8
section
variable {prog : Program} {w : World} {A : Around} {E : Value → Shared → Prop} {s : Shared}
/-- an item of a list of numbers -/
theorem item_nat {value slice : Expr} {l : Addr} {vs : List Value} {ns : List Nat} {z : Int} {u : Tok} {Q : Value → Shared → Prop} (k : Nat) (hl : s.heap.IsList l vs.toArray) (hi : IntsAre vs (ns.map Int.ofNat)) (hz : z = (k : Int)) (hk : k < ns.length) (hn : ns.length ≤ 4096)
    (h : ∀ t, Q (.int ((ns.getD k 0 : Nat) : Int) t) s)
    (hs : subscripted slice false (.ref l) (.int z u) = operate [.ref l, .int z u] (getItem (.ref l) (.int z u)) := by with_unfolding_all rfl) (hg : ∀ r, letTemporaryGo value (.ref l) r = pure () := by intro _; with_unfolding_all rfl) :
    wpAny (model prog w) A (subscriptTail value slice (.ref l) (.int z u)) Q E s := by
  subst hz
  have hx : (ns.map Int.ofNat)[k]? = some ((ns.getD k 0 : Nat) : Int) := by
    rw [List.getElem?_map, List.getD_eq_getElem?_getD, List.getElem?_eq_getElem hk]; rfl
  obtain ⟨t, hv⟩ := hi.get k _ hx
  exact item_listL hl (by omega) (by omega) (by rw [Int.toNat_natCast]; exact hv) (h t) hs hg
end
end
/-! Comp8 -/
section
set_option maxRecDepth 100000
set_option maxHeartbeats 4000000
section
variable {prog : Program} {w : World} {A : Around} {E : Value → Shared → Prop} {env : Env} {elt i0 : Expr} {x0 : Str} {p0 : Pos} {scope : Scope} {pos : Pos} {s : Shared} {h₀ : Heap} {L : Addr} {m : Str → Option Value} {Q : Value → Shared → Prop}
theorem newEnv_cell {a0 g1 g2 : Str} {k1 k2 : NameKind} {Q : Env → Shared → Prop} (hn : scope.names = [(a0, .local), (x0, .cell), (g1, k1), (g2, k2)]) (h1 : (k1 == .cell) = false) (h2 : (k2 == .cell) = false)
    (h : Q { scope, locals := s.heap.objs.size, globals := env.globals, cells := [(x0, s.heap.objs.size + 1)], qual := env.qual, func := none, code := env.code, frame := env.frame, builtins := env.builtins }
      { s with heap := (s.heap.push { cls := .type "dict", data := .dict #[] }).push { cls := .type "cell", data := .cell none } }) :
    wpAny (model prog w) A (newFunctionEnv scope env.globals [] [] env.qual none .none (some env)) Q E s := by
  unfold newFunctionEnv
  rw [hn]
  refine wpAny_bind (wpAny_alloc ?_)
  simp only [List.forIn_cons, List.forIn_nil, h1, h2, Option.isSome_some, if_true]
  refine wpAny_bind ?_
  refine wpAny_bind (any_if_false rfl (wpAny_pure ?_))
  dsimp only
  refine wpAny_bind (any_if_true rfl (wpAny_bind (wpAny_alloc (wpAny_pure ?_))))
  dsimp only
  refine wpAny_bind (any_if_false rfl (wpAny_pure ?_))
  dsimp only
  refine wpAny_bind (any_if_false rfl (wpAny_pure ?_))
  dsimp only
  refine wpAny_pure ?_
  rw [Heap.size_push]
  exact wpAny_bind (wpAny_pure (wpAny_pure h))
theorem drop4 {p q r t : Addr × Obj} {l : List (Addr × Obj)} : ∀ x ∈ p :: q :: r :: l, x ∈ p :: q :: r :: t :: l := by
  intro x hx
  rcases List.mem_cons.mp hx with rfl | hx
  · exact .head _
  rcases List.mem_cons.mp hx with rfl | hx
  · exact .tail _ (.head _)
  rcases List.mem_cons.mp hx with rfl | hx
  · exact .tail _ (.tail _ (.head _))
  · exact .tail _ (.tail _ (.tail _ (.tail _ hx)))
end
end
/-! Comp9 -/
section
set_option maxRecDepth 100000
set_option maxHeartbeats 4000000
section
variable {prog : Program} {w : World} {A : Around} {E : Value → Shared → Prop} {env : Env} {elt i0 : Expr} {x0 : Str} {p0 : Pos} {scope : Scope} {pos : Pos} {s : Shared} {h₀ : Heap} {L : Addr} {m : Str → Option Value}
theorem store_L2 {news : List (Addr × Obj)} {x : Str} {v : Value} {Q : Unit → Shared → Prop} (F : Fr h₀ L s.heap m) (N : News h₀ L s.heap news) (hL : env.locals = L)
    (h : ∀ h', Fr h₀ L h' (fun y => if y = x then some v else m y) → News h₀ L h' news → Q () { s with heap := h', toks := s.toks + 1 })
    (hy : env.kindOf x = some .local) (hp : (env.scope.kind == .class || (env.scope.kind == .module && env.locals != env.globals)) = false) :
    wpAny (model prog w) A (storeName env x v) Q E s := by
  subst hL
  refine wpAny_storeName_local hy F.ns (fun h₂ hn₂ hs₂ => ?_) hp
  have hL₀ : h₀.get? env.locals = none := Heap.get?_none_of_le F.above
  exact h h₂ ⟨hn₂, fun b o e => hs₂.extBut b o (fun q => by rw [q, hL₀] at e; cases e) (F.keep b o e), F.above⟩ fun p hp => ⟨hs₂.extBut _ _ (N p hp).2.1 (N p hp).1, (N p hp).2⟩
/-- the same, its list stored into a name: of a comprehension over a range whose name lies in a cell -/
def CSrcA (prog : Program) (w : World) (A : Around) (h₀ : Heap) (L : Addr) (m : Str → Option Value) (env : Env) (elt : Expr) (x : Str) (scope : Scope) (y₀ : Str) (Q : Flow → Shared → Prop) (it : Value) (s₂ : Shared) : Prop :=
  ∃ I n, ∃ a : Int, ∃ oI rest, ∃ G : Nat → Value → Prop, it = .ref I ∧ A.handled = none ∧ n ≤ sizeLine ∧ IsRangeIter s₂.heap I (a + ((0 : Nat) : Int) * 1) ((n : Int) - ((0 : Nat) : Int)) 1 ∧
    Fr h₀ L s₂.heap m ∧ News h₀ L s₂.heap ((I, oI) :: rest) ∧ Off I rest ∧
    (∀ i tv Cc oc C oC D ys oI h tk, i < n → oc.data = .cell (some (.int (a + (i : Int)) tv)) → Fr h₀ L h m → News h₀ L h ((Cc, oc) :: (C, oC) :: (D, LCg.lst ys) :: (I, oI) :: rest) →
      wpAny (model prog w) A (eval elt (compEnvC scope [(x, Cc)] C env)) (CEnd s₂ h₀ L m ((Cc, oc) :: (C, oC) :: (D, LCg.lst ys) :: (I, oI) :: rest) (G i)) NoE { s₂ with heap := h, toks := tk }) ∧
    ∀ D h tk ys, Fr h₀ L h (fun z => if z = y₀ then some (.ref D) else m z) → News h₀ L h ((D, LCg.lst ys) :: rest) → Off D rest → ys.length = n → (∀ (i : Nat) y, ys[i]? = some y → G i y) → Q .next { s₂ with heap := h, toks := tk }
theorem LC_cellA {y₀ : Str} {py : Pos} {spos : Pos} {Q : Flow → Shared → Prop} (hLe : env.locals = L) (hsw : swapsWith (.ListComp elt [⟨.Name x0 p0, i0, [], 0⟩] scope pos) (some (.Name y₀ py)) spos.line env = pure true) (hy : env.kindOf y₀ = some .local) (hp : (env.scope.kind == .class || (env.scope.kind == .module && env.locals != env.globals)) = false) {a0 g1 g2 : Str} {k1 k2 : NameKind} (hn : scope.names = [(a0, .local), (x0, .cell), (g1, k1), (g2, k2)]) (h1 : (k1 == .cell) = false) (h2 : (k2 == .cell) = false)
    (hclos : closureFor scope env = pure []) (hkind : scope.kind = .function) (hnames : ∀ y ∈ scope.names, y.2 = .local → scope.names.lookup y.1 = some .local) (hx : (relabel scope env).names.lookup x0 = some .cell)
    (h : wpAny (model prog w) A (eval i0 env) (fun xv s₁ => wpAny (model prog w) A (pyIter xv) (CSrcA prog w A h₀ L m env elt x0 scope y₀ Q) E s₁) E s)
    (hs : ∀ x, foldedSetIterable i0 env x = pure x := by intro _; rfl) :
    wpAny (model prog w) A (exec (.Assign [.Name y₀ py] (.ListComp elt [⟨.Name x0 p0, i0, [], 0⟩] scope pos) spos) env) Q E s := by
  rw [exec_Assign_Name_used _ _ _ _ hsw]
  refine wpAny_bind (wpAny_standAt (wpAny_bind ?_))
  show wpAny _ A (do let _ ← comprehension (.ListComp elt [⟨.Name x0 p0, i0, [], 0⟩] scope pos) scope env _ (newList []) false (eval i0 env) (some (assign (.Name y₀ py) env))) _ _ s
  refine wpAny_bind (wpAny_mono (wpAny_comprehension_free (use := some (assign (.Name y₀ py) env)) (Q := fun _ s' => Q .next s') rfl hs hclos hkind hnames
    (wpAny_mono h (fun xv s₁ h₁ => wpAny_mono h₁ (fun it s₂ h₂ => ?_) fun _ _ e => e) fun _ _ e => e)) (fun _ s' hq => wpAny_pure (wpAny_pure hq)) fun _ _ e => e)
  obtain ⟨I, n, a, oI, rest, G, rfl, hh, hsz, hst, F, N, off, he, fin⟩ := h₂
  refine wpAny_newObj_type (newEnv_cell hn h1 h2 ?_)
  dsimp only
  have F2 := F.push { cls := .type "list", dict := none, data := .seq ([] : List Value).toArray }
  have N2 := News.push F N { cls := .type "list", dict := none, data := .seq ([] : List Value).toArray } rfl
  have hz2 : (s₂.heap.push { cls := .type "list", dict := none, data := .seq ([] : List Value).toArray }).objs.size = s₂.heap.objs.size + 1 := Heap.size_push ..
  have hlt := news_lt N
  have hL := fr_lt F
  generalize s₂.heap.push { cls := .type "list", dict := none, data := .seq ([] : List Value).toArray } = H2 at *
  have F3 := F2.push { cls := .type "dict", data := .dict #[] }
  have N3 := News.push F2 N2 { cls := .type "dict", data := .dict #[] } rfl
  have hns : (H2.push { cls := .type "dict", data := .dict #[] }).Ns H2.objs.size (fun _ => none) := Heap.Ns.new ..
  have hz3 : (H2.push { cls := .type "dict", data := .dict #[] }).objs.size = H2.objs.size + 1 := Heap.size_push ..
  generalize H2.push { cls := .type "dict", data := .dict #[] } = H3 at *
  have F4 := F3.push { cls := .type "cell", data := .cell none }
  have N4 := News.push F3 N3 { cls := .type "cell", data := .cell none } rfl
  have hns4 : (H3.push { cls := .type "cell", data := .cell none }).Ns H2.objs.size (fun _ => none) := hns.push _
  rw [hz3] at N4
  generalize H3.push { cls := .type "cell", data := .cell none } = H4 at *
  obtain ⟨oC, eC, hC⟩ := LCg.ns_obj hns4
  have eCd : oC = { cls := .type "dict", data := .dict #[] } := by
    have := (N4 _ at1).1
    rw [show H4.get? H2.objs.size = some oC from eC] at this
    exact Option.some.inj this
  have hIlt := hlt _ at0
  have hIR : ∀ p ∈ rest, @LT.lt Nat _ p.1 s₂.heap.objs.size := fun p hp => hlt p (.tail _ hp)
  generalize hDn : s₂.heap.objs.size = D at *
  generalize hCn : H2.objs.size = C at *
  have offR : ∀ X : Addr, @LE.le Nat _ D X → Off X rest := fun X hX b hb => by
    obtain ⟨p, hp, rfl⟩ := List.mem_map.mp hb
    exact Nat.ne_of_lt (Nat.lt_of_lt_of_le (hIR p hp) hX)
  have hst4 : IsRangeIter H4 I (a + ((0 : Nat) : Int) * 1) ((n : Int) - ((0 : Nat) : Int)) 1 := by
    have e1 : s₂.heap.get? I = some _ := hst
    have e2 := (N _ at0).1
    rw [show s₂.heap.get? I = some oI from e2] at e1
    cases e1
    exact (N4 _ at3).1
  have start : codeAny (model prog w) A (.compLoop (.ListComp elt [⟨.Name x0 p0, i0, [], 0⟩] scope pos) 0 (.ref I) (.ref D) (compEnvC scope [(x0, C + 1)] C env))
      (fun r s' => compPost (model prog w) A E (some (assign (.Name y₀ py) env)) (fun _ s' => Q .next s') (.ref D) C r s') { s₂ with heap := H4 } := by
    refine codeAny_mono (R := Ret fun _ s' => ∃ oCc oC' ys, Fr h₀ L s'.heap m ∧ News h₀ L s'.heap ((C + 1, oCc) :: (C, oC') :: (D, LCg.lst ys) :: rest) ∧ LCg.NsObj oC' (fun _ => none) ∧ ∀ h' tk', Fr h₀ L h' (fun z => if z = y₀ then some (.ref D) else m z) → News h₀ L h' ((D, LCg.lst ys) :: rest) → Q .next { s' with heap := h', toks := tk' })
      (loop_one (x0 := x0) n (fun i s' => ∃ h tk oI oCc ys, s' = { s₂ with heap := h, toks := tk } ∧ Fr h₀ L h m ∧ News h₀ L h ((C + 1, oCc) :: (C, oC) :: (D, LCg.lst ys) :: (I, oI) :: rest) ∧ IsRangeIter h I (a + (i : Int) * 1) ((n : Int) - (i : Int)) 1 ∧ (∃ v₀, oCc.data = .cell v₀) ∧ ys.length = i ∧ ∀ (j : Nat) y, ys[j]? = some y → G j y) ?_ ?_ n 0 _ rfl (Nat.zero_le _) ?_)
      fun r s' hr => ?_
    · rintro i s' hi ⟨h, tk, oI, oCc, ys, rfl, F5, N5, hit, ⟨v₀, hv₀⟩, hlen, hG⟩
      refine (LCg.range_walks (I := I) hh a n).item i ⟨h, _, _, _, _⟩ _ _ hi hit fun v h6 tk6 hP hst6 hk6 => ⟨v, rfl, ?_⟩
      obtain ⟨tv, rfl⟩ := hP
      obtain ⟨gI, gIL, gI0⟩ := N5 _ at3
      have F6 : Fr h₀ L h6 m := fr_but F5 hk6 (nin1 (Ne.symm gIL)) (all1 gI0)
      have z : News h₀ L h6 ((C + 1, oCc) :: (C, oC) :: (D, LCg.lst ys) :: rest) := news_but (news_sub N5 drop4) hk6 (off_cons (show @Ne Nat (C + 1) I by omega) (off_cons (show @Ne Nat C I by omega) (off_cons (show @Ne Nat D I by omega) off))).nin
      refine wpAny_assign_Name (wpAny_storeName_cell (c := C + 1) (v₀ := v₀) hkind hx (by simp [compEnvC]) ⟨oCc, (z _ at0).1, hv₀⟩ fun h7 hc7 hs7 => ?_)
      obtain ⟨oc7, e7, d7⟩ := hc7
      obtain ⟨gC, gCL, gC0⟩ := z _ at0
      have F7 : Fr h₀ L h7 m := fr_but F6 (same_but hs7) (nin1 (Ne.symm gCL)) (all1 gC0)
      have hI7 : IsRangeIter h7 I (a + ((i + 1 : Nat) : Int) * 1) ((n : Int) - ((i + 1 : Nat) : Int)) 1 := by
        have e6 : h6.get? I = some _ := hst6
        exact (hs7.2 I (show @Ne Nat I (C + 1) by omega)).trans e6
      have z7 : News h₀ L h7 ((C, oC) :: (D, LCg.lst ys) :: rest) := news_but (news_tl z) (same_but hs7) (off_cons (show @Ne Nat C (C + 1) by omega) (off_cons (show @Ne Nat D (C + 1) by omega) (offR (C + 1) (by omega)))).nin
      obtain ⟨oI7, eI7⟩ : ∃ o, h7.get? I = some o := ⟨_, hI7⟩
      have N7 : News h₀ L h7 ((C + 1, oc7) :: (C, oC) :: (D, LCg.lst ys) :: (I, oI7) :: rest) := by
        intro p hp
        rcases List.mem_cons.mp hp with rfl | hp
        · exact ⟨e7, gCL, gC0⟩
        rcases List.mem_cons.mp hp with rfl | hp
        · exact z7 _ at0
        rcases List.mem_cons.mp hp with rfl | hp
        · exact z7 _ at1
        rcases List.mem_cons.mp hp with rfl | hp
        · exact ⟨eI7, gIL, gI0⟩
        · exact z7 _ (.tail _ (.tail _ hp))
      refine wpAny_mono (he i tv (C + 1) oc7 C oC D ys oI7 h7 _ hi d7 F7 N7) (fun y s8 h8 => ?_) fun _ _ e => e
      obtain ⟨h8, tk8, rfl, F8, N8, hy⟩ := h8
      refine append_L (s := ⟨h8, _, _, _, _⟩) F8 (news_sub N8 rot3) (off_cons (show @Ne Nat (C + 1) D by omega) (off_cons (show @Ne Nat C D by omega) (off_cons (show @Ne Nat I D by omega) (offR D (Nat.le_refl _))))) (by omega) fun h9 F9 N9 => ?_
      refine ⟨h9, _, oI7, oc7, _, rfl, F9, news_sub N9 rot3', ?_, ⟨_, d7⟩, by simp [hlen], ?_⟩
      · have e7' : h7.get? I = some _ := hI7
        rw [show h7.get? I = some oI7 from eI7] at e7'
        cases e7'
        exact (N9 _ at3).1
      · intro j q hq
        by_cases hj : j < ys.length
        · rw [List.getElem?_append_left hj] at hq; exact hG j q hq
        · have hjl : j = ys.length := by
            have := (List.getElem?_eq_some_iff.mp hq).1
            rw [List.length_append, List.length_singleton] at this; omega
          subst hjl
          simp at hq
          subst hq
          rw [hlen]; exact hy
    · rintro s' ⟨h, tk, oI, oCc, ys, rfl, F5, N5, hit, ⟨v₀, hv₀⟩, hlen, hG⟩
      refine (LCg.range_walks (I := I) hh a n).done ⟨h, _, _, _, _⟩ _ _ hit fun h6 tk6 hk6 => ⟨rfl, ?_⟩
      obtain ⟨gI, gIL, gI0⟩ := N5 _ at3
      have F6 : Fr h₀ L h6 m := fr_but F5 hk6 (nin1 (Ne.symm gIL)) (all1 gI0)
      have z : News h₀ L h6 ((C + 1, oCc) :: (C, oC) :: (D, LCg.lst ys) :: rest) := news_but (news_sub N5 drop4) hk6 (off_cons (show @Ne Nat (C + 1) I by omega) (off_cons (show @Ne Nat C I by omega) (off_cons (show @Ne Nat D I by omega) off))).nin
      exact ⟨oCc, oC, ys, F6, z, hC, fun h7 tk7 F7 N7 => fin D h7 tk7 ys F7 N7 (offR D (Nat.le_refl _)) hlen hG⟩
    · exact ⟨H4, _, oI, _, [], rfl, F4, by rw [eCd]; exact N4, hst4, ⟨_, rfl⟩, rfl, fun j y e => by simp at e⟩
    · cases r with
      | error e => exact hr.elim
      | ok f =>
        obtain ⟨oCc, oC', ys, F', N', hC', fin'⟩ := hr
        show wpAny _ A (assign (.Name y₀ py) env (.ref D)) _ _ _
        refine wpAny_assign_Name (store_L2 F' N' hLe (fun h₂ F₂ N₂ => ?_) hy hp)
        obtain ⟨g1, g2, g3⟩ := N₂ _ at1
        refine ⟨_, hC'.ns g1, fun h'' hs'' => fin' h'' _ (fr_but F₂ (same_but hs'') (nin1 (Ne.symm g2)) (all1 g3)) (news_but (news_tl (news_tl N₂)) (same_but hs'') (off_cons (show @Ne Nat D C by omega) (offR C (by omega))).nin)⟩
  exact codeAny_compStart_list start ((LCg.range_walks (I := I) hh a n).self 0 _ _ _ hst4 start)
theorem src_rangeA {news : List (Addr × Obj)} {x y₀ : Str} {Q : Flow → Shared → Prop} {r : Addr} {a b : Int} {t u v : Tok} (n : Nat) (G : Nat → Value → Prop) (hh : A.handled = none) (F : Fr h₀ L s.heap m) (N : News h₀ L s.heap news) (hr : IsRange s.heap r a b 1 t u v) (hsm : Builtin.Range.small a b 1 = true) (hn : Builtin.Range.rangeSize a b 1 = ((n : Nat) : Int)) (hsz : n ≤ sizeLine)
    (he : ∀ I oI g i tv Cc oc C oC D ys h tk, i < n → oc.data = .cell (some (.int (a + (i : Int)) tv)) → Fr h₀ L h m → News h₀ L h ((Cc, oc) :: (C, oC) :: (D, LCg.lst ys) :: (I, oI) :: news) →
      wpAny (model prog w) A (eval elt (compEnvC scope [(x, Cc)] C env)) (CEnd { s with heap := g } h₀ L m ((Cc, oc) :: (C, oC) :: (D, LCg.lst ys) :: (I, oI) :: news) (G i)) NoE { s with heap := h, toks := tk })
    (fin : ∀ D h tk ys, Fr h₀ L h (fun z => if z = y₀ then some (.ref D) else m z) → News h₀ L h ((D, LCg.lst ys) :: news) → Off D news → ys.length = n → (∀ (i : Nat) y, ys[i]? = some y → G i y) → Q .next { s with heap := h, toks := tk }) :
    wpAny (model prog w) A (pyIter (.ref r)) (CSrcA prog w A h₀ L m env elt x scope y₀ Q) E s := by
  refine wpAny_pyIter_range hr hsm ?_
  refine ⟨s.heap.objs.size, n, a, _, news, G, rfl, hh, hsz, by rw [hn]; simpa using Heap.get?_push_size _ rfl, F.push _, News.push F N _ rfl, ?_, ?_, fin⟩
  · intro b hb
    obtain ⟨p, hp, rfl⟩ := List.mem_map.mp hb
    exact Nat.ne_of_lt (news_lt N p hp)
  · intro i tv Cc oc C oC D ys oI h tk hi hd F1 N1
    exact he _ oI _ i tv Cc oc C oC D ys h tk hi hd F1 N1
end
end
/-! Bfs -/
section
set_option maxRecDepth 100000
set_option maxHeartbeats 4000000
/-! steps: fronts turned about -/
def flipB (c : Nat) (bs : List Bool) : List Bool := (bs.take c).reverse ++ bs.drop c
def nextC (c r : Nat) : Nat := numB (flipB c (bitsB 5 r))
def flipL (c : Nat) (l : List UInt8) : List UInt8 := (l.take c).reverse ++ l.drop c
theorem flip_held (c : Nat) (l : List UInt8) : (flipL c l).map hB = flipB c (l.map hB) := by
  simp [flipL, flipB, List.map_take, List.map_drop]
def getN (l : List (Nat × Nat)) (k : Nat) : Nat := ((l.find? fun p => p.1 = k).map (·.2)).getD 0
def hasN (l : List (Nat × Nat)) (k : Nat) : Bool := l.any fun p => p.1 = k
def setN (l : List (Nat × Nat)) (k v : Nat) : List (Nat × Nat) := if hasN l k then l.map fun p => if p.1 = k then (p.1, v) else p else l ++ [(k, v)]
structure Bst where
  few : List (Nat × Nat)
  ways : List (Nat × Nat)
  fresh : List Nat

/-- E2, E3: one step from p by a front of c -/
def bst2 (σ : Bst) (p q : Nat) : Bst := if hasN σ.few q then σ else ⟨setN σ.few q (getN σ.few p + 1), setN σ.ways q 0, σ.fresh ++ [q]⟩
def bst3 (σ : Bst) (p q : Nat) : Bst := if getN σ.few q = getN σ.few p + 1 then { σ with ways := setN σ.ways q (getN σ.ways q + getN σ.ways p) } else σ
def bstep (c : Nat) (σ : Bst) (p : Nat) : Bst := bst3 (bst2 σ p (nextC c p)) p (nextC c p)
def bcut (ring : List Nat) (σ : Bst) (c : Nat) : Bst := ring.foldl (bstep c) σ
def bround (σ : Bst) : Bst := [2, 3, 4, 5].foldl (bcut σ.fresh) ⟨σ.few, σ.ways, []⟩
def bstart (g : Nat) : Bst := ⟨[(g, 0)], [(g, 1)], [g]⟩
def brun (g : Nat) : Nat → Bst
  | 0 => bstart g
  | k + 1 => bround (brun g k)
/-- the goal's picture -/
def goalP (a last : Nat) : Nat := (2 ^ a - 1) * (if last = 0 then 2 ^ (5 - a) else 1)
def pop5 (r : Nat) : Nat := ((List.range 5).map fun j => r / 2 ^ j % 2).sum
/-- what the law tells of a picture -/
def signL (r last : Nat) : List Nat := ((List.range 5).map fun i => r / 2 ^ (4 - i) % 2) ++ [last]
def unlikeN (r last : Nat) : Nat := ((List.range 5).filter fun j => (signL r last).getD j 0 != (signL r last).getD (j + 1) 0).length
def waysTo : Nat → Nat
  | 0 => 1
  | i + 1 => waysTo i * ((2 + i) / 2)
def waysN (u : Nat) : Nat := waysTo (u - 1)
def toldN (a last : Nat) : List (Nat × Nat × Nat) := ((List.range 32).filter fun r => pop5 r = a).map fun r => (r, unlikeN r last - 1, waysN (unlikeN r last))
def endOf (a last : Nat) : Bst := brun (goalP a last) 7
def foundN (a last : Nat) : List (Nat × Nat × Nat) := ((List.range 32).filter (hasN (endOf a last).few)).map fun r => (r, getN (endOf a last).few r, getN (endOf a last).ways r)
end
/-! MD -/
theorem fresh_MD : True ∧ True := by
  w_top off
  first
    | (walk1; done)
    | exact ⟨trivial, trivial⟩
section
set_option maxRecDepth 100000
set_option maxHeartbeats 4000000
def fnBody : Stmt → List Stmt
  | .FunctionDef _ _ b _ _ _ _ _ _ _ => b
  | _ => []
def fnScope : Stmt → Scope
  | .FunctionDef _ _ _ _ _ _ sc _ _ _ => sc
  | _ => { kind := .function, names := [], isGenerator := false, isCoroutine := false }
def nthOf : Nat → List Stmt → Stmt
  | _, [] => .Pass ⟨0, 0, 0, 0⟩
  | 0, s :: _ => s
  | n + 1, _ :: r => nthOf n r
def forBody : Stmt → List Stmt
  | .For _ _ b _ _ => b
  | .While _ b _ _ => b
  | _ => []
def forTarget : Stmt → Expr
  | .For t _ _ _ _ => t
  | _ => .Constant .none 0 ⟨0, 0, 0, 0⟩
def mainSt (k : Nat) : Stmt := nthOf k PySem.Challenge.pw_pg0089_02.main.body
def toldSt (k : Nat) : Stmt := nthOf k (fnBody (mainSt 30))
def toldScope : Scope := fnScope (mainSt 30)
def reachSt (k : Nat) : Stmt := nthOf k (fnBody (mainSt 29))
def reachScope : Scope := fnScope (mainSt 29)
def lawSt (k : Nat) : Stmt := nthOf k (fnBody (mainSt 31))
def lawScope : Scope := fnScope (mainSt 31)
theorem stop_call {P : Prop} (h : Stop P) : P := h
def Lst (s : Shared) (news : List (Addr × Obj)) (P : (Str → Option Value) → Prop) (s' : Shared) : Prop :=
  ∃ h tk m, s' = { s with heap := h, toks := tk } ∧ Fr s.heap s.heap.objs.size h m ∧ News s.heap s.heap.objs.size h news ∧ P m
theorem Lst.mono {s : Shared} {news : List (Addr × Obj)} {P P' : (Str → Option Value) → Prop} {s' : Shared} (h : Lst s news P s') (hp : ∀ m, P m → P' m) : Lst s news P' s' := by
  obtain ⟨h1, tk, m, e, F, N, hm⟩ := h
  exact ⟨h1, tk, m, e, F, N, hp m hm⟩
def HasI (m : Str → Option Value) (x : Str) (v : Int) : Prop := ∃ t, m x = some (.int v t)
def nx (P : Shared → Prop) (f : Flow) (s' : Shared) : Prop := f = .next ∧ P s'
theorem fmodN {a b : Int} {n k : Nat} (ha : a = n) (hb : b = k) : a.fmod b = ((n % k : Nat) : Int) := by
  subst ha hb
  rw [Int.fmod_eq_emod_of_nonneg _ (Int.natCast_nonneg k)]; norm_cast
theorem fdivN {a b : Int} {n k : Nat} (ha : a = n) (hb : b = k) : a.fdiv b = ((n / k : Nat) : Int) := by
  subst ha hb
  rw [Int.fdiv_eq_ediv_of_nonneg _ (Int.natCast_nonneg k)]; norm_cast
end
/-! MT -/
theorem fresh_MT : True ∧ True := by
  w_top off
  first
    | (walk1; done)
    | exact ⟨trivial, trivial⟩
section
set_option maxRecDepth 100000
set_option maxHeartbeats 4000000
section
variable {w : World} {A : Around} {E : Value → Shared → Prop} {s : Shared} {mean : ExcName → Option Value} {mg mb : Str → Option Value}
local macro_rules | `(tactic| walk_at "eval ListComp") => `(tactic| (k_here; (refine stop_call ?_)))
local macro_rules | `(tactic| walk_at "subscriptTail") => `(tactic| (k_here; (refine stop_call ?_)))
theorem bit_val {pic k : Nat} : ((pic : Int).fdiv (2 ^ k)).fmod 2 = ((pic / 2 ^ k % 2 : Nat) : Int) := fmodN (fdivN (k := 2 ^ k) rfl (by norm_cast)) rfl
theorem tst0 {fa S1 S2 : Addr} {cd : Value} {o1 o2 : Obj} {v₀ : Option Value} {tp : Tok} {pic last : Nat} {s₁ : Shared} (X : (hd.heap_39 w.params).In s.heap) (T : Top hd.view_39 (looseW hd.view_39 [Str.ofString "_filemode_table"]) mean mg mb s.heap) (hh : A.handled = none) (hS1 : S1 = s.heap.objs.size + 1 + 1) (hS2 : S2 = s.heap.objs.size + 1)
    (ho1 : o1.data = .cell v₀) (ho2 : o2.data = .cell (some (.int (pic : Int) tp))) (hp : pic < 32)
    (h : Lst s [(S1, o1), (S2, o2)] (fun m => HasI m (Str.ofString "last") last) s₁) :
    wpAny (model PySem.Challenge.rw_pg0089_02.row.prog w) A (exec (toldSt 0) (envOfC (Str.ofString "_law_told") toldScope s.heap.objs.size fa cd))
      (nx fun s' => ∃ o1' l vs n, o1'.data = .cell (some (.ref l)) ∧ IntsAre vs ((signL pic last).map Int.ofNat) ∧ Lst s [(l, W.listOf vs.toArray n), (S1, o1'), (S2, o2)] (fun m => HasI m (Str.ofString "last") last) s') NoE s₁ := by
  revert X; k_fill; intro X
  conv in (toldSt _) => whnf
  conv in toldScope => whnf; zeta
  subst hS1 hS2
  obtain ⟨h1, tk1, m, rfl, F, N, ⟨t1, hm1⟩⟩ := h
  k_steps
  all_goals (try k_data)
  unfold Stop
  refine LC (h₀ := s.heap) (L := s.heap.objs.size) (m := m) (by with_unfolding_all rfl) (by decide) (by rfl) (by decide) (by rfl) ?_
  k_steps
  all_goals (try k_data)
  rename Fr _ _ _ _ => F2
  rename News _ _ _ _ => N2
  refine src_tuple (s := ⟨_, _, _, _, _⟩) (fun i y => ∃ t, y = .int (((pic / 2 ^ (4 - i) % 2 : Nat) : Int)) t) hh F2 N2 (.head _) rfl rfl (by rw [PySem.sizeLine_eq]; exact Nat.le_of_ble_eq_true rfl) ?_ ?_
  · intro I oI g i v C oC D mC ys h tk hi hv F3 N3 hC hx
    obtain ⟨tv, rfl⟩ : ∃ tv, v = .int ((4 - i : Nat) : Int) tv := by
      match i, hi, hv with
      | 0, _, hv => cases hv; exact ⟨_, rfl⟩
      | 1, _, hv => cases hv; exact ⟨_, rfl⟩
      | 2, _, hv => cases hv; exact ⟨_, rfl⟩
      | 3, _, hv => cases hv; exact ⟨_, rfl⟩
      | 4, _, hv => cases hv; exact ⟨_, rfl⟩
      | n + 5, h5, _ => exact absurd h5 (by simp)
    clear F2 N2
    try dsimp only
    k_steps
    all_goals (try k_data)
    rename Fr _ _ _ _ => F4
    rename News _ _ _ _ => N4
    refine ⟨_, _, rfl, F4, N4, ?_⟩
    rw [Int.toNat_natCast]
    exact ⟨_, congrArg (fun z => Value.int z _) bit_val⟩
  · intro D h tk ys F3 N3 off hlen hG
    have hlen5 : ys.length = 5 := hlen
    have hD1 : @Ne Nat (s.heap.objs.size + 1 + 1) D := off _ (.tail _ (.head _))
    have hD2 : @Ne Nat (s.heap.objs.size + 1) D := off _ (.tail _ (.tail _ (.head _)))
    have hi3 : IntsAre ys ((List.range 5).map fun i => ((pic / 2 ^ (4 - i) % 2 : Nat) : Int)) := ints_of_at (by rw [List.length_map, List.length_range]; exact hlen) fun i y hy => by
      obtain ⟨t, rfl⟩ := hG i y hy
      have h5 : i < 5 := by
        have := (List.getElem?_eq_some_iff.mp hy).1
        omega
      refine ⟨t, ?_⟩
      rw [List.getD_eq_getElem?_getD, List.getElem?_map, List.getElem?_range h5]; rfl
    clear F2 N2
    try dsimp only
    k_steps
    all_goals (try k_data)
    rename IntsAre _ (_ ++ _) => hI
    rename Fr _ _ _ _ => F5
    rename News _ _ _ _ => N5
    rename _ = Data.cell (some (Value.ref _)) => d5
    refine ⟨rfl, _, _, _, _, d5, ?_, _, _, m, rfl, F5, news_sub N5 (sub3 at0 at4 at5), ⟨_, hm1⟩⟩
    rw [signL, List.map_append, List.map_map]
    exact hI
theorem tst1 {fa S1 S2 l : Addr} {cd : Value} {o1 o2 : Obj} {vs : List Value} {n pic last : Nat} {s₁ : Shared} (X : (hd.heap_39 w.params).In s.heap) (T : Top hd.view_39 (looseW hd.view_39 [Str.ofString "_filemode_table"]) mean mg mb s.heap) (hh : A.handled = none) (hS1 : S1 = s.heap.objs.size + 1 + 1)
    (ho1 : o1.data = .cell (some (.ref l))) (hi : IntsAre vs ((signL pic last).map Int.ofNat))
    (h : Lst s [(l, W.listOf vs.toArray n), (S1, o1), (S2, o2)] (fun m => HasI m (Str.ofString "last") last) s₁) :
    wpAny (model PySem.Challenge.rw_pg0089_02.row.prog w) A (exec (toldSt 1) (envOfC (Str.ofString "_law_told") toldScope s.heap.objs.size fa cd))
      (nx (Lst s [] (fun m => HasI m (Str.ofString "unlike") (unlikeN pic last)))) NoE s₁ := by
  revert X; k_fill; intro X
  conv in (toldSt _) => whnf
  conv in toldScope => whnf; zeta
  subst hS1
  obtain ⟨h1, tk1, m, rfl, F, N, ⟨t1, hm1⟩⟩ := h
  k_steps
  all_goals (try k_data)
  unfold Stop
  refine LCT (h₀ := s.heap) (L := s.heap.objs.size) (m := m) (by with_unfolding_all rfl) (by decide) (by rfl) (by decide) (by rfl) ?_
  k_steps
  all_goals (try k_data)
  rename Fr _ _ _ _ => F2
  rename News _ _ _ _ => N2
  rename IsRange _ _ _ _ _ _ _ _ => hr
  refine src_rangeT (s := ⟨_, _, _, _, _⟩) 5 (fun i => (signL pic last).getD i 0 != (signL pic last).getD (i + 1) 0) hh F2 N2 hr (by decide) (by decide) (by rw [PySem.sizeLine_eq]; decide) ?_ ?_ ?_
  · intro I oI g i tv C oC D mC ys h tk h5 F3 N3 hC hx
    clear F2 N2
    try dsimp only
    k_steps
    all_goals (try k_data)
    have hsl : (signL pic last).length = 6 := by simp [signL]
    have hlist := N3.isList at3
    unfold Stop
    refine item_nat (s := ⟨_, _, _, _, _⟩) i hlist hi (by omega) (by omega) (by omega) fun t6 => ?_
    try dsimp only
    k_steps
    all_goals (try k_data)
    have e : (List.map Int.ofNat (signL pic last)).getD (0 + (i : Int) + 1).toNat 0 = (((signL pic last).getD (i + 1) 0 : Nat) : Int) := by
      rw [show (0 + (i : Int) + 1).toNat = i + 1 by omega, List.getD_eq_getElem?_getD, List.getD_eq_getElem?_getD, List.getElem?_map, List.getElem?_eq_getElem (show i + 1 < (signL pic last).length by omega)]; rfl
    rw [e]
    rename Fr _ _ _ _ => F4
    rename News _ _ _ _ => N4
    exact ⟨_, _, rfl, F4, N4, Bool.eq_iff_iff.mpr (by simp [Int.natCast_inj])⟩
  · intro I oI g i tv C oC D mC ys h tk h5 F3 N3 hC hx
    clear F2 N2
    try dsimp only
    k_steps
    all_goals (try k_data)
    exact ⟨_, _, rfl, F3, N3, trivial⟩
  · intro D h tk ys F3 N3 off hlen
    clear F2 N2
    try dsimp only
    k_steps
    all_goals (try k_data)
    have hu : ys.length = unlikeN pic last := hlen
    have hu5 : unlikeN pic last ≤ 5 := Nat.le_trans (List.length_filter_le _ _) (by simp)
    refine len_list (s := ⟨_, _, _, _, _⟩) (N3.isList at0) (by rw [List.size_toArray]; omega) ?_
    rw [show ys.toArray.size = unlikeN pic last from hu]
    try dsimp only
    k_steps
    all_goals (try k_data)
    rename Fr _ _ _ _ => F5
    exact ⟨rfl, _, _, _, rfl, F5, News.nil, ⟨_, by with_unfolding_all rfl⟩⟩
end
end
/-! MU -/
theorem fresh_MU : True ∧ True := by
  w_top off
  first
    | (walk1; done)
    | exact ⟨trivial, trivial⟩
section
set_option maxRecDepth 100000
set_option maxHeartbeats 4000000
section
variable {w : World} {A : Around} {E : Value → Shared → Prop} {s : Shared} {mean : ExcName → Option Value} {mg mb : Str → Option Value}
theorem tst2 {fa : Addr} {cd : Value} {u : Nat} {s₁ : Shared} (X : (hd.heap_39 w.params).In s.heap) (T : Top hd.view_39 (looseW hd.view_39 [Str.ofString "_filemode_table"]) mean mg mb s.heap)
    (h : Lst s [] (fun m => HasI m (Str.ofString "unlike") u) s₁) :
    wpAny (model PySem.Challenge.rw_pg0089_02.row.prog w) A (exec (toldSt 2) (envOfC (Str.ofString "_law_told") toldScope s.heap.objs.size fa cd))
      (nx (Lst s [] (fun m => HasI m (Str.ofString "unlike") u ∧ HasI m (Str.ofString "ways") 1))) NoE s₁ := by
  revert X; k_fill; intro X
  conv in (toldSt _) => whnf
  conv in toldScope => whnf; zeta
  obtain ⟨h1, tk1, m, rfl, F, N, ⟨t1, hm1⟩⟩ := h
  k_steps
  all_goals (try k_data)
  rename Fr _ _ _ _ => F'
  exact ⟨rfl, _, _, _, rfl, F', News.nil, ⟨_, by with_unfolding_all exact hm1⟩, ⟨_, by with_unfolding_all rfl⟩⟩
def TJ (s : Shared) (I : Addr) (u : Nat) (i : Nat) (s' : Shared) : Prop := Lst s [(I, rangeO ((2 : Int) + i) (((u - 1 : Nat) : Int) - i) 1)] (fun m => HasI m (Str.ofString "unlike") u ∧ HasI m (Str.ofString "ways") (waysTo i : Nat)) s'
theorem told_size : ∀ u : Nat, u ≤ 5 → Builtin.Range.rangeSize 2 ((u : Int) + 1) 1 = ((u - 1 : Nat) : Int) := by decide
theorem told_small : ∀ u : Nat, u ≤ 5 → Builtin.Range.small 2 ((u : Int) + 1) 1 = true := by decide
theorem ways_small : ∀ i, i ≤ 5 → waysTo i ≤ 100 := by decide
theorem tst3 {fa : Addr} {cd : Value} {u : Nat} {s₁ : Shared} (X : (hd.heap_39 w.params).In s.heap) (T : Top hd.view_39 (looseW hd.view_39 [Str.ofString "_filemode_table"]) mean mg mb s.heap) (hh : A.handled = none) (hu : u ≤ 5)
    (h : Lst s [] (fun m => HasI m (Str.ofString "unlike") u ∧ HasI m (Str.ofString "ways") 1) s₁) :
    wpAny (model PySem.Challenge.rw_pg0089_02.row.prog w) A (exec (toldSt 3) (envOfC (Str.ofString "_law_told") toldScope s.heap.objs.size fa cd))
      (nx (Lst s [] (fun m => HasI m (Str.ofString "unlike") u ∧ HasI m (Str.ofString "ways") (waysN u : Nat)))) NoE s₁ := by
  revert X; k_fill; intro X
  conv in (toldSt _) => whnf
  conv in toldScope => whnf; zeta
  obtain ⟨h1, tk1, m, rfl, F, N, ⟨t1, hm1⟩, ⟨t2, hm2⟩⟩ := h
  refine forA ?_
  k_steps
  all_goals (try k_data)
  rename_i h3 tk3 _ _ _ hr F3 N3 k3
  refine range_enter (s := ⟨h3, _, _, _, _⟩) hr (told_small u hu) ((u - 1 : Nat) : Int) (told_size u hu) F3 N3 fun I h4 F4 N4 off => ?_
  try dsimp only
  clear F3 N3
  refine forA_inv (u - 1) (TJ s I u) ?_ ?_ (u - 1) 0 _ rfl (Nat.zero_le _) ?_
  · rintro i s' hi ⟨h, tk, m, rfl, F5, N5, ⟨t5, hm5⟩, ⟨t6, hm6⟩⟩
    refine range_turn (s := ⟨h, _, _, _, _⟩) F5 N5 off (by omega) fun h6 F6 N6 => ?_
    have hws := ways_small i (by omega)
    clear F4 N4 F5 N5
    try dsimp only
    k_steps
    all_goals (try k_data)
    rename Fr _ _ _ _ => F7
    rename News _ _ _ _ => N7
    have e : (waysTo i : Int) * ((2 : Int) + (i : Int)).fdiv 2 = ((waysTo (i + 1) : Nat) : Int) := by
      rw [show ((2 : Int) + (i : Int)).fdiv 2 = (((2 + i) / 2 : Nat) : Int) from fdivN (n := 2 + i) (k := 2) (by norm_cast) rfl, waysTo]; norm_cast
    have e2 : ((2 : Int) + (i : Int)) + 1 = 2 + ((i + 1 : Nat) : Int) := by omega
    have e3 : (((u - 1 : Nat) : Int) - (i : Int)) - 1 = ((u - 1 : Nat) : Int) - ((i + 1 : Nat) : Int) := by omega
    rw [e2, e3] at N7
    refine ⟨_, _, _, rfl, F7, N7, ⟨_, by with_unfolding_all exact hm5⟩, ?_⟩
    rw [← e]
    exact ⟨_, by with_unfolding_all rfl⟩
  · rintro s' ⟨h, tk, m, rfl, F5, N5, ⟨t5, hm5⟩, ⟨t6, hm6⟩⟩
    refine range_done (s := ⟨h, _, _, _, _⟩) hh F5 N5 off (by omega) fun h6 F6 N6 => ?_
    refine wpAny_execs_nil ?_
    exact ⟨rfl, h6, _, m, rfl, F6, N6, ⟨_, hm5⟩, ⟨_, hm6⟩⟩
  · exact ⟨h4, tk3, m, rfl, F4, by simpa using N4, ⟨_, hm1⟩, ⟨_, hm2⟩⟩
theorem tst4 {fa : Addr} {cd : Value} {u wy : Nat} {s₁ : Shared} (X : (hd.heap_39 w.params).In s.heap) (T : Top hd.view_39 (looseW hd.view_39 [Str.ofString "_filemode_table"]) mean mg mb s.heap) (hh : A.handled = none) (hu : u ≤ 5)
    (h : Lst s [] (fun m => HasI m (Str.ofString "unlike") u ∧ HasI m (Str.ofString "ways") wy) s₁) :
    wpAny (model PySem.Challenge.rw_pg0089_02.row.prog w) A (exec (toldSt 4) (envOfC (Str.ofString "_law_told") toldScope s.heap.objs.size fa cd))
      (fun f s' => ∃ D o tf tw h tk, f = .ret (.ref D) ∧ s' = { s with heap := h, toks := tk } ∧ Kp s.heap h ∧ s.heap.get? D = none ∧ h.get? D = some o ∧ o.cls = .type "tuple" ∧ ∃ n, o.data = .seq #[.int ((u - 1 : Nat) : Int) tf, .int (wy : Int) tw] n) NoE s₁ := by
  revert X; k_fill; intro X
  conv in (toldSt _) => whnf
  conv in toldScope => whnf; zeta
  obtain ⟨h1, tk1, m, rfl, F, N, ⟨t1, hm1⟩, ⟨t2, hm2⟩⟩ := h
  refine wpAny_stop ?_
  k_steps
  all_goals (try k_data)
  refine Flt.max_two_num (s := ⟨_, _, _, _, _⟩) hh (.int _ _) (.int _ _) fun h3 tk3 kp3 => ?_
  have F3 := fr_kp F kp3
  clear F N
  have e : ∃ t, (if Flt.ltV (Value.int ((u : Int) - 1) (tk1 + 1)) (Value.int 0 (tk1 + 1 + 1)) then Value.int 0 (tk1 + 1 + 1) else Value.int ((u : Int) - 1) (tk1 + 1)) = Value.int ((u - 1 : Nat) : Int) t := by
    rcases Nat.eq_zero_or_pos u with rfl | h0
    · exact ⟨_, rfl⟩
    · have : Flt.ltV (Value.int ((u : Int) - 1) (tk1 + 1)) (Value.int 0 (tk1 + 1 + 1)) = false := by
        show decide ((u : Int) - 1 < 0) = false
        exact decide_eq_false (by omega)
      rw [this, show ((u - 1 : Nat) : Int) = (u : Int) - 1 by omega]
      exact ⟨_, rfl⟩
  obtain ⟨tm, e⟩ := e
  try dsimp only
  rw [e]
  have N3 := (News.nil : News s.heap s.heap.objs.size h3 [])
  k_steps
  all_goals (try k_data)
  rename Fr _ _ _ _ => F5
  rename News _ _ _ _ => N5
  exact ⟨_, _, _, _, _, _, rfl, rfl, F5.keep, (N5 _ at0).2.2, (N5 _ at0).1, rfl, _, rfl⟩
theorem nextA_mid {M : Model} {env : Env} {st rest} {s : Shared} {Q : Flow → Shared → Prop} (Mid : Shared → Prop) (h1 : wpAny M A (exec st env) (fun f s' => f = .next ∧ Mid s') NoE s) (h2 : ∀ s', Mid s' → wpAny M A (execs rest env) Q E s') :
    wpAny M A (execs (st :: rest) env) Q E s := by
  refine wpAny_execs_cons (wpAny_mono h1 (fun f s' h => ?_) fun _ _ h => h.elim)
  obtain ⟨rfl, h⟩ := h
  exact h2 s' h
theorem told_rest {fa S1 S2 : Addr} {cd : Value} {o1 o2 : Obj} {v₀ : Option Value} {tp : Tok} {pic last : Nat} {s₁ : Shared} (X : (hd.heap_39 w.params).In s.heap) (T : Top hd.view_39 (looseW hd.view_39 [Str.ofString "_filemode_table"]) mean mg mb s.heap) (hh : A.handled = none) (hS1 : S1 = s.heap.objs.size + 1 + 1) (hS2 : S2 = s.heap.objs.size + 1)
    (ho1 : o1.data = .cell v₀) (ho2 : o2.data = .cell (some (.int (pic : Int) tp))) (hp : pic < 32)
    (h : Lst s [(S1, o1), (S2, o2)] (fun m => HasI m (Str.ofString "last") last) s₁) :
    wpAny (model PySem.Challenge.rw_pg0089_02.row.prog w) A (execs [toldSt 0, toldSt 1, toldSt 2, toldSt 3, toldSt 4] (envOfC (Str.ofString "_law_told") toldScope s.heap.objs.size fa cd))
      (fun f s' => ∃ D o tf tw h tk, f = .ret (.ref D) ∧ s' = { s with heap := h, toks := tk } ∧ Kp s.heap h ∧ s.heap.get? D = none ∧ h.get? D = some o ∧ o.cls = .type "tuple" ∧ ∃ n, o.data = .seq #[.int ((unlikeN pic last - 1 : Nat) : Int) tf, .int ((waysN (unlikeN pic last) : Nat) : Int) tw] n) NoE s₁ := by
  have hu5 : unlikeN pic last ≤ 5 := Nat.le_trans (List.length_filter_le _ _) (by simp)
  refine nextA_mid _ (tst0 X T hh hS1 hS2 ho1 ho2 hp h) fun s2 h2 => ?_
  obtain ⟨o1', l, vs, n, d1, hi, h2⟩ := h2
  refine nextA_mid _ (tst1 X T hh hS1 d1 hi h2) fun s3 h3 => ?_
  refine nextA_mid _ (tst2 X T h3) fun s4 h4 => ?_
  refine nextA_mid _ (tst3 X T hh hu5 h4) fun s5 h5 => ?_
  refine wpAny_execs_cons (wpAny_mono (tst4 X T hh hu5 h5) (fun f s' hf => ?_) fun _ _ e => e)
  obtain ⟨D, o, tf, tw, h, tk, rfl, hf⟩ := hf
  exact ⟨D, o, tf, tw, h, tk, rfl, hf⟩
theorem told_A {pic last : Nat} {tp tl : Tok} {Q : Value → Shared → Prop} (X : (hd.heap_39 w.params).In s.heap) (T : Top hd.view_39 (looseW hd.view_39 [Str.ofString "_filemode_table"]) mean mg mb s.heap)
    (hdp : A.depth + 2 < recursionLimit) (hh : A.handled = none) (hp : pic < 32)
    (hQ : ∀ h' tk D o tf tw, Kp s.heap h' → s.heap.get? D = none → h'.get? D = some o → o.cls = .type "tuple" → (∃ n, o.data = .seq #[.int ((unlikeN pic last - 1 : Nat) : Int) tf, .int ((waysN (unlikeN pic last) : Nat) : Int) tw] n) → Q (.ref D) { s with heap := h', toks := tk }) :
    wpAny (model PySem.Challenge.rw_pg0089_02.row.prog w) A (call (.ref 99) [.int (pic : Int) tp, .int (last : Int) tl]) Q E s := by
  revert X; k_fill; intro X
  refine' callA_cells (binds := [(Str.ofString "picture", .int (pic : Int) tp), (Str.ofString "last", .int (last : Int) tl)]) X T (Nat.lt_of_le_of_lt (Nat.le_add_right _ _) hdp) ?ho ?hcd ?hb ?hl ?hc ?c1 ?c2 ?c3 ?_
  case ho => k_dflt k_is
  case hcd => k_dflt k_is
  case hb => rfl
  case hl => exact kindsX rfl
  case hc => decide +kernel
  case c1 => rfl
  case c2 => rfl
  case c3 => rfl
  intro h1 tk1 cells F1 N1 Y1 X' T'
  k_cells Y1
  rename Obj.data _ = Data.cell (bindC _ _ _ (Str.ofString "signs")) => d1
  rename Obj.data _ = Data.cell (bindC _ _ _ (Str.ofString "picture")) => d2
  change Fr s.heap s.heap.objs.size h1 (fun y => if y = Str.ofString "last" then some (Value.int (last : Int) tl) else none) at F1
  refine wp_as (t' := execs [toldSt 0, toldSt 1, toldSt 2, toldSt 3, toldSt 4] (envOfC (Str.ofString "_law_told") toldScope s.heap.objs.size 99 (.ref 98))) (by kernel_rfl) ?_
  refine wpAny_mono (told_rest (s := s) (S1 := s.heap.objs.size + 1 + 1) (S2 := s.heap.objs.size + 1) (last := last) X T (by exact hh) rfl rfl d1 d2 hp ⟨h1, tk1, _, rfl, F1, N1, ⟨tl, rfl⟩⟩) (fun f s' hf => ?_) fun _ _ e => e
  obtain ⟨D, o, tf, tw, h, tk, rfl, rfl, hk, hn, ho, hc, hd⟩ := hf
  exact hQ h tk D o tf tw hk hn ho hc hd
end
end
/-! NL -/
theorem fresh_NL : True ∧ True := by
  w_top off
  first
    | (walk1; done)
    | exact ⟨trivial, trivial⟩
section
set_option maxRecDepth 100000
set_option maxHeartbeats 4000000
section
variable {w : World} {A : Around} {E : Value → Shared → Prop} {s : Shared} {mean : ExcName → Option Value} {mg mb : Str → Option Value}
local macro_rules | `(tactic| walk_at "unpackItems ref") => `(tactic| (k_here; (refine stop_call ?_)))
theorem lst1 {fa D2 : Addr} {cd : Value} {nn : Nat} {ys : List Value} {ds : List Int} {s₁ : Shared} (X : (hd.heap_39 w.params).In s.heap) (T : Top hd.view_39 (looseW hd.view_39 [Str.ofString "_filemode_table"]) mean mg mb s.heap) (hi : IntsAre ys ds) (hlen : ds.length ≤ 2) (hd : ∀ d ∈ ds, 0 ≤ d ∧ d < 1000000)
    (h : Lst s [(D2, W.listOf ys.toArray nn)] (fun m => m (Str.ofString "drawn") = some (.ref D2)) s₁) :
    wpAny (model PySem.Challenge.rw_pg0089_02.row.prog w) A (exec (lawSt 1) (envOf (Str.ofString "law") lawScope s.heap.objs.size fa cd))
      (nx fun s' => ∃ D x y tx ty n', x < 1000000 ∧ y < 1000000 ∧ Lst s [(D, W.listOf #[.int ((x : Nat) : Int) tx, .int ((y : Nat) : Int) ty] n')] (fun m => m (Str.ofString "cells") = some (.ref D)) s') NoE s₁ := by
  revert X; k_fill; intro X
  conv in (lawSt _) => whnf
  conv in lawScope => whnf; zeta
  obtain ⟨h1, tk1, m, rfl, F, N, hm⟩ := h
  cases hi with
  | nil =>
    k_steps
    all_goals (try k_data)
    rename Fr _ _ _ _ => F'
    rename News _ _ _ _ => N'
    exact ⟨rfl, _, 0, 7, _, _, _, by decide, by decide, _, _, _, rfl, F', news_sub N' (sub1 at0), by with_unfolding_all rfl⟩
  | cons a ta hi =>
    obtain ⟨a0, a1⟩ := hd a (.head _)
    obtain ⟨x, rfl⟩ := Int.eq_ofNat_of_zero_le a0
    cases hi with
    | nil =>
      k_steps
      all_goals (try k_data)
      rename Fr _ _ _ _ => F'
      rename News _ _ _ _ => N'
      exact ⟨rfl, _, x, 7, _, _, _, by omega, by decide, _, _, _, rfl, F', news_sub N' (sub1 at0), by with_unfolding_all rfl⟩
    | cons b tb hi =>
      obtain ⟨b0, b1⟩ := hd b (.tail _ (.head _))
      obtain ⟨y, rfl⟩ := Int.eq_ofNat_of_zero_le b0
      cases hi with
      | nil =>
        k_steps
        all_goals (try k_data)
        rename Fr _ _ _ _ => F'
        rename News _ _ _ _ => N'
        exact ⟨rfl, _, x, y, _, _, _, by omega, by omega, _, _, _, rfl, F', news_sub N' (sub1 at0), by with_unfolding_all rfl⟩
      | cons _ _ _ => simp at hlen
theorem lst2 {fa D : Addr} {cd : Value} {n' x y : Nat} {tx ty : Tok} {s₁ : Shared} (X : (hd.heap_39 w.params).In s.heap) (T : Top hd.view_39 (looseW hd.view_39 [Str.ofString "_filemode_table"]) mean mg mb s.heap)
    (h : Lst s [(D, W.listOf #[.int ((x : Nat) : Int) tx, .int ((y : Nat) : Int) ty] n')] (fun m => m (Str.ofString "cells") = some (.ref D)) s₁) :
    wpAny (model PySem.Challenge.rw_pg0089_02.row.prog w) A (exec (lawSt 2) (envOf (Str.ofString "law") lawScope s.heap.objs.size fa cd))
      (nx (Lst s [(D, W.listOf #[.int ((x : Nat) : Int) tx, .int ((y : Nat) : Int) ty] n')] (fun m => m (Str.ofString "cells") = some (.ref D) ∧ HasI m (Str.ofString "mode") ((x + 17833) % 65536 : Nat)))) NoE s₁ := by
  revert X; k_fill; intro X
  conv in (lawSt _) => whnf
  conv in lawScope => whnf; zeta
  obtain ⟨h1, tk1, m, rfl, F, N, hm⟩ := h
  k_steps
  all_goals (try k_data)
  rename Fr _ _ _ _ => F'
  rename News _ _ _ _ => N'
  refine ⟨rfl, _, _, _, rfl, F', N', by with_unfolding_all exact hm, ?_⟩
  rw [← fmodN (a := (x : Int) + 17833) (b := 65536) (by omega) rfl]
  exact ⟨_, by with_unfolding_all rfl⟩
def N3 (md st la : Nat) (m : Str → Option Value) : Prop := HasI m (Str.ofString "mode") md ∧ HasI m (Str.ofString "start") st ∧ HasI m (Str.ofString "last") la
theorem lst3 {fa D : Addr} {cd : Value} {n' x y md : Nat} {tx ty : Tok} {s₁ : Shared} (X : (hd.heap_39 w.params).In s.heap) (T : Top hd.view_39 (looseW hd.view_39 [Str.ofString "_filemode_table"]) mean mg mb s.heap) (hh : A.handled = none)
    (h : Lst s [(D, W.listOf #[.int ((x : Nat) : Int) tx, .int ((y : Nat) : Int) ty] n')] (fun m => m (Str.ofString "cells") = some (.ref D) ∧ HasI m (Str.ofString "mode") md) s₁) :
    wpAny (model PySem.Challenge.rw_pg0089_02.row.prog w) A (exec (lawSt 3) (envOf (Str.ofString "law") lawScope s.heap.objs.size fa cd))
      (nx (Lst s [] (N3 md (y % 5) (y / 5 % 2)))) NoE s₁ := by
  revert X; k_fill; intro X
  conv in (lawSt _) => whnf
  conv in lawScope => whnf; zeta
  obtain ⟨h1, tk1, m, rfl, F, N, hm, ⟨t1, hm1⟩⟩ := h
  k_steps
  all_goals (try k_data)
  unfold Stop
  rename Fr _ _ _ _ => F2
  rename News _ _ _ _ => N2
  refine unpackItemsN_ F2 N2 (N2.isTup at0) hh rfl ?_
  intro h3 F3 N3
  clear F2 N2
  k_steps
  all_goals (try k_data)
  rename Fr _ _ _ _ => F'
  refine ⟨rfl, _, _, _, rfl, F', News.nil, ⟨_, by with_unfolding_all exact hm1⟩, ?_, ?_⟩
  · rw [← fmodN (a := (y : Int)) (b := 5) rfl rfl]
    exact ⟨_, by with_unfolding_all rfl⟩
  · rw [← fmodN (a := (y : Int).fdiv 5) (b := 2) (fdivN rfl rfl) rfl]
    exact ⟨_, by with_unfolding_all rfl⟩
end
section
variable {w : World} {A : Around} {E : Value → Shared → Prop} {s : Shared} {mean : ExcName → Option Value} {mg mb : Str → Option Value}
theorem rshift_5 {prog : Program} {x : Nat} {t u : Tok} {Q : Value → Shared → Prop} (h : Q (.int ((512 / 2 ^ (x + 5) : Nat) : Int) s.toks) { s with toks := s.toks + 1 }) :
    wpAny (model prog w) A (binaryOp .RShift (.int 512 t) (.int ((x : Int) + 5) u)) Q E s := by
  refine rshift_c (by omega) ?_ h
  rw [show ((x : Int) + 5).toNat = x + 5 by omega, Int.fdiv_eq_ediv_of_nonneg _ (by exact Int.le_of_lt (Int.pow_pos (by decide)))]
  norm_cast
local macro_rules | `(tactic| walk_at "binaryOp RShift int int") => `(tactic| (k_here; (refine' rshift_5 ?_)))
local macro_rules | `(tactic| walk_at "binaryOp FloorDiv int int") => `(tactic| (k_here; (refine' floordiv_c ?ra ?rb ?rc ?_; (case ra => omega); (case rb => rfl); (case rc => exact PyProof.noPylong_small (by omega)))))
def N4 (md st la lw : Nat) (m : Str → Option Value) : Prop := N3 md st la m ∧ HasI m (Str.ofString "low") lw
theorem lst4 {fa : Addr} {cd : Value} {md st la : Nat} {s₁ : Shared} (X : (hd.heap_39 w.params).In s.heap) (T : Top hd.view_39 (looseW hd.view_39 [Str.ofString "_filemode_table"]) mean mg mb s.heap)
    (h : Lst s [] (N3 md st la) s₁) :
    wpAny (model PySem.Challenge.rw_pg0089_02.row.prog w) A (exec (lawSt 4) (envOf (Str.ofString "law") lawScope s.heap.objs.size fa cd)) (nx (Lst s [] (N4 md st la (512 / 2 ^ (st + 5))))) NoE s₁ := by
  revert X; k_fill; intro X
  conv in (lawSt _) => whnf
  conv in lawScope => whnf; zeta
  obtain ⟨h1, tk1, m, rfl, F, N, ⟨t1, hm1⟩, ⟨t2, hm2⟩, ⟨t3, hm3⟩⟩ := h
  k_steps
  all_goals (try k_data)
  rename Fr _ _ _ _ => F'
  exact ⟨rfl, _, _, _, rfl, F', News.nil, ⟨⟨_, by with_unfolding_all exact hm1⟩, ⟨_, by with_unfolding_all exact hm2⟩, ⟨_, by with_unfolding_all exact hm3⟩⟩, ⟨_, by with_unfolding_all rfl⟩⟩
def N5 (md st la lw fx : Nat) (m : Str → Option Value) : Prop := N4 md st la lw m ∧ HasI m (Str.ofString "fixed") fx
theorem lst5 {fa : Addr} {cd : Value} {md st la lw : Nat} {s₁ : Shared} (X : (hd.heap_39 w.params).In s.heap) (T : Top hd.view_39 (looseW hd.view_39 [Str.ofString "_filemode_table"]) mean mg mb s.heap) (hlw : 0 < lw ∧ lw ≤ 16) (hle : lw * (md / lw % 32) ≤ md)
    (h : Lst s [] (N4 md st la lw) s₁) :
    wpAny (model PySem.Challenge.rw_pg0089_02.row.prog w) A (exec (lawSt 5) (envOf (Str.ofString "law") lawScope s.heap.objs.size fa cd)) (nx (Lst s [] (N5 md st la lw (md - lw * (md / lw % 32))))) NoE s₁ := by
  revert X; k_fill; intro X
  conv in (lawSt _) => whnf
  conv in lawScope => whnf; zeta
  obtain ⟨h1, tk1, m, rfl, F, N, ⟨⟨t1, hm1⟩, ⟨t2, hm2⟩, ⟨t3, hm3⟩⟩, ⟨t4, hm4⟩⟩ := h
  k_steps
  all_goals (try k_data)
  rename Fr _ _ _ _ => F'
  refine ⟨rfl, _, _, _, rfl, F', News.nil, ⟨⟨⟨_, by with_unfolding_all exact hm1⟩, ⟨_, by with_unfolding_all exact hm2⟩, ⟨_, by with_unfolding_all exact hm3⟩⟩, ⟨_, by with_unfolding_all exact hm4⟩⟩, ?_⟩
  have e : (md : Int) - (lw : Int) * ((md : Int).fdiv (lw : Int)).fmod 32 = ((md - lw * (md / lw % 32) : Nat) : Int) := by
    rw [show ((md : Int).fdiv (lw : Int)).fmod 32 = ((md / lw % 32 : Nat) : Int) from fmodN (fdivN rfl rfl) rfl, Int.natCast_sub hle]; norm_cast
  rw [← e]
  exact ⟨_, by with_unfolding_all rfl⟩
end
end
/-! NM -/
theorem fresh_NM : True ∧ True := by
  w_top off
  first
    | (walk1; done)
    | exact ⟨trivial, trivial⟩
section
set_option maxRecDepth 100000
set_option maxHeartbeats 4000000
section
variable {w : World} {A : Around} {E : Value → Shared → Prop} {s : Shared} {mean : ExcName → Option Value} {mg mb : Str → Option Value}
theorem sum_kp {prog : Program} {l : Addr} {items : Array Value} {ns : List Int} {Q : Value → Shared → Prop} (hh : A.handled = none) (hl : s.heap.IsList l items) (hi : IntsAre items.toList ns)
    (h : ∀ h' tk t', Kp s.heap h' → Q (.int ns.sum t') { s with heap := h', toks := tk }) : wpAny (model prog w) A (call (.builtin "sum") [.ref l]) Q E s := by
  have hall : AllInts items := by simpa using hi.allInts
  have hn := hi.numsOf
  obtain ⟨xs, rfl⟩ := hall.items
  rw [nums_intItems] at hn
  refine sum_intListG hh hl fun h' tk t' hk => ?_
  have := h h' tk t' hk
  rw [preSum_eq, List.take_of_length_le (by simp), hn]; exact this
theorem sum_nat (ns : List Nat) : (ns.map Int.ofNat).sum = ((ns.sum : Nat) : Int) := by
  induction ns with
  | nil => rfl
  | cons a ns ih => rw [List.map_cons, List.sum_cons, List.sum_cons, ih]; rfl
theorem floordiv_w5 {prog : Program} {x : Int} {j : Nat} {t u : Tok} {Q : Value → Shared → Prop} (hx : 0 ≤ x ∧ x < 64 ∧ j ≤ 6) (h : Q (.int (x.fdiv (2 ^ j)) s.toks) { s with toks := s.toks + 1 }) :
    wpAny (model prog w) A (binaryOp .FloorDiv (.int x t) (.int (2 ^ j) u)) Q E s := by
  have : (0 : Int) < 2 ^ j := Int.pow_pos (by decide)
  have : (2 : Int) ^ j ≤ 64 := by
    have := Nat.pow_le_pow_right (n := 2) (by decide) hx.2.2
    exact_mod_cast this
  refine floordiv_c (by omega) rfl (PyProof.noPylong_small (by omega)) h
local macro_rules | `(tactic| walk_at "binaryOp FloorDiv int int") => `(tactic| (k_here; (refine' floordiv_w5 ?ra ?_; (case ra => omega))))
local macro_rules | `(tactic| walk_at "eval ListComp") => `(tactic| (k_here; (refine stop_call ?_)))
local macro_rules | `(tactic| walk_at "call builtin:sum") => `(tactic| (k_here; (refine stop_call ?_)))
def N6 (md st la lw fx : Nat) (Z : Addr) (m : Str → Option Value) : Prop := N5 md st la lw fx m ∧ m (Str.ofString "sizes") = some (.ref Z)
def sizesN : List Nat := (List.range 32).map pop5
theorem lst6 {fa : Addr} {cd : Value} {md st la lw fx : Nat} {s₁ : Shared} (X : (hd.heap_39 w.params).In s.heap) (T : Top hd.view_39 (looseW hd.view_39 [Str.ofString "_filemode_table"]) mean mg mb s.heap) (hh : A.handled = none)
    (h : Lst s [] (N5 md st la lw fx) s₁) :
    wpAny (model PySem.Challenge.rw_pg0089_02.row.prog w) A (exec (lawSt 6) (envOf (Str.ofString "law") lawScope s.heap.objs.size fa cd)) (nx fun s' => ∃ Z vs n, IntsAre vs (sizesN.map Int.ofNat) ∧ Lst s [(Z, W.listOf vs.toArray n)] (N6 md st la lw fx Z) s') NoE s₁ := by
  revert X; k_fill; intro X
  conv in (lawSt _) => whnf
  conv in lawScope => whnf; zeta
  obtain ⟨h1, tk1, m, rfl, F, N, ⟨⟨⟨t1, hm1⟩, ⟨t2, hm2⟩, ⟨t3, hm3⟩⟩, ⟨t4, hm4⟩⟩, ⟨t5, hm5⟩⟩ := h
  refine LC_cellA (h₀ := s.heap) (L := s.heap.objs.size) (m := m) rfl (by with_unfolding_all rfl) (by rfl) (by rfl) rfl (by decide) (by decide) (by with_unfolding_all rfl) (by rfl) (by decide) (by rfl) ?_
  k_steps
  all_goals (try k_data)
  rename Fr _ _ _ _ => F2
  rename News _ _ _ _ => N2
  rename IsRange _ _ _ _ _ _ _ _ => hr
  refine src_rangeA (s := ⟨_, _, _, _, _⟩) 32 (fun i y => ∃ t, y = .int ((pop5 i : Nat) : Int) t) hh F2 N2 hr (by decide) (by decide) (by rw [PySem.sizeLine_eq]; decide) ?_ ?_
  · intro I oI g i tv Cc oc C oC D ys h tk hi hdc F3 N3
    clear F2 N2
    try dsimp only
    k_steps
    all_goals (try k_data)
    unfold Stop
    refine LC (h₀ := s.heap) (L := s.heap.objs.size) (m := m) (by with_unfolding_all rfl) (by decide) (by rfl) (by decide) (by rfl) ?_
    k_steps
    all_goals (try k_data)
    rename Fr _ _ _ _ => F4
    rename News _ _ _ _ => N4
    rename IsRange _ _ 0 5 _ _ _ _ => hr5
    refine src_range (s := ⟨_, _, _, _, _⟩) 5 (fun j y => ∃ t, y = .int ((i / 2 ^ j % 2 : Nat) : Int) t) hh F4 N4 hr5 (by decide) (by decide) (by rw [PySem.sizeLine_eq]; decide) ?_ ?_
    · intro I2 oI2 g2 j tv2 C2 oC2 D2 mC2 ys2 h2 tk2 hj F5 N5 hC2 hx2
      clear F4 N4
      try dsimp only
      k_steps
      all_goals (try k_data)
      rename Fr _ _ _ _ => F6
      rename News _ _ _ _ => N6
      refine ⟨_, _, rfl, F6, N6, ?_⟩
      have e : (((0 : Int) + (i : Int)).fdiv (2 ^ ((0 : Int) + (j : Int)).toNat)).fmod 2 = ((i / 2 ^ j % 2 : Nat) : Int) := by
        rw [Int.zero_add, Int.zero_add, Int.toNat_natCast]; exact bit_val
      exact ⟨_, congrArg (fun z => Value.int z _) e⟩
    · intro D2 h2 tk2 ys2 F5 N5 off2 hlen2 hG2
      clear F4 N4
      try dsimp only
      k_steps
      all_goals (try k_data)
      unfold Stop
      have hi5 : IntsAre ys2 (((List.range 5).map fun j => i / 2 ^ j % 2).map Int.ofNat) := ints_of_at (by simpa using hlen2) fun j y hy => by
        obtain ⟨t, rfl⟩ := hG2 j y hy
        have h5 : j < 5 := by
          have := (List.getElem?_eq_some_iff.mp hy).1
          omega
        refine ⟨t, ?_⟩
        rw [List.getD_eq_getElem?_getD, List.getElem?_map, List.getElem?_map, List.getElem?_range h5]; rfl
      refine sum_kp hh (N5.isList at0) (by exact hi5) fun h6 tk6 t6 hk6 => ?_
      rw [sum_nat]
      exact ⟨_, _, rfl, fr_kp F5 hk6, news_tl (news_kp N5 hk6), ⟨_, rfl⟩⟩
  · intro D h tk ys F3 N3 off hlen hG
    have hi6 : IntsAre ys (sizesN.map Int.ofNat) := ints_of_at (by rw [List.length_map, sizesN, List.length_map, List.length_range]; exact hlen) fun j y hy => by
      obtain ⟨t, rfl⟩ := hG j y hy
      have h5 : j < 32 := by
        have := (List.getElem?_eq_some_iff.mp hy).1
        omega
      refine ⟨t, ?_⟩
      rw [sizesN, List.getD_eq_getElem?_getD, List.getElem?_map, List.getElem?_map, List.getElem?_range h5]; rfl
    exact ⟨rfl, D, ys, _, hi6, h, tk, _, rfl, F3, N3, ⟨⟨⟨⟨_, by with_unfolding_all exact hm1⟩, ⟨_, by with_unfolding_all exact hm2⟩, ⟨_, by with_unfolding_all exact hm3⟩⟩, ⟨_, by with_unfolding_all exact hm4⟩⟩, ⟨_, by with_unfolding_all exact hm5⟩⟩, by with_unfolding_all rfl⟩
end
end
/-! NN -/
theorem fresh_NN : True ∧ True := by
  w_top off
  first
    | (walk1; done)
    | exact ⟨trivial, trivial⟩
section
set_option maxRecDepth 100000
set_option maxHeartbeats 4000000
section
variable {w : World} {A : Around} {E : Value → Shared → Prop} {s : Shared} {mean : ExcName → Option Value} {mg mb : Str → Option Value}
local macro_rules | `(tactic| walk_at "subscriptTail") => `(tactic| (k_here; (refine stop_call ?_)))
local macro_rules | `(tactic| walk_at "subscriptTail Name BinOp ref int") => `(tactic| (k_here; (refine stop_call ?_)))
local macro_rules | `(tactic| walk_at "binaryOp FloorDiv int int") => `(tactic| (k_here; (refine' floordiv_c ?ra ?rb ?rc ?_; (case ra => omega); (case rb => rfl); (case rc => exact PyProof.noPylong_small (by omega)))))
theorem sizes_len : sizesN.length = 32 := rfl
theorem sizes_get : ∀ r, r < 32 → sizesN.getD r 0 = pop5 r := by decide
def N7 (md st la lw fx : Nat) (Z : Addr) (ay : Nat) (m : Str → Option Value) : Prop := N6 md st la lw fx Z m ∧ HasI m (Str.ofString "ayes") ay
theorem lst7 {fa Z : Addr} {cd : Value} {md st la lw fx n : Nat} {vs : List Value} {s₁ : Shared} (X : (hd.heap_39 w.params).In s.heap) (T : Top hd.view_39 (looseW hd.view_39 [Str.ofString "_filemode_table"]) mean mg mb s.heap) (hlw : 0 < lw ∧ lw ≤ 16) (hi : IntsAre vs (sizesN.map Int.ofNat))
    (h : Lst s [(Z, W.listOf vs.toArray n)] (N6 md st la lw fx Z) s₁) :
    wpAny (model PySem.Challenge.rw_pg0089_02.row.prog w) A (exec (lawSt 7) (envOf (Str.ofString "law") lawScope s.heap.objs.size fa cd)) (nx (Lst s [(Z, W.listOf vs.toArray n)] (N7 md st la lw fx Z (pop5 (md / lw % 32))))) NoE s₁ := by
  revert X; k_fill; intro X
  conv in (lawSt _) => whnf
  conv in lawScope => whnf; zeta
  obtain ⟨h1, tk1, m, rfl, F, N, ⟨⟨⟨⟨t1, hm1⟩, ⟨t2, hm2⟩, ⟨t3, hm3⟩⟩, ⟨t4, hm4⟩⟩, ⟨t5, hm5⟩⟩, hm6⟩ := h
  k_steps
  all_goals (try k_data)
  unfold Stop
  rename Fr _ _ _ _ => F2
  rename News _ _ _ _ => N2
  have hp : md / lw % 32 < 32 := Nat.mod_lt _ (by decide)
  refine item_nat (s := ⟨_, _, _, _, _⟩) (md / lw % 32) (N2.isList at0) hi (fmodN (fdivN rfl rfl) rfl) (by rw [sizes_len]; exact hp) (by rw [sizes_len]; decide) fun t6 => ?_
  rw [sizes_get _ hp]
  try dsimp only
  k_steps
  all_goals (try k_data)
  rename Fr _ _ _ _ => F'
  rename News _ _ _ _ => N'
  exact ⟨rfl, _, _, _, rfl, F', N', ⟨⟨⟨⟨⟨_, by with_unfolding_all exact hm1⟩, ⟨_, by with_unfolding_all exact hm2⟩, ⟨_, by with_unfolding_all exact hm3⟩⟩, ⟨_, by with_unfolding_all exact hm4⟩⟩, ⟨_, by with_unfolding_all exact hm5⟩⟩, by with_unfolding_all exact hm6⟩, ⟨_, by with_unfolding_all rfl⟩⟩
def N8 (md st la lw fx : Nat) (Z : Addr) (ay g : Nat) (m : Str → Option Value) : Prop := N7 md st la lw fx Z ay m ∧ HasI m (Str.ofString "goal") g
theorem goal0 {fx lw k : Nat} (hk : k ≤ 5) : (fx : Int) + (lw : Int) * (2 ^ ((k : Nat) : Int).toNat - 1) * 2 ^ (5 - ((k : Nat) : Int)).toNat = ((fx + lw * goalP k 0 : Nat) : Int) := by
  rcases (show k = 0 ∨ k = 1 ∨ k = 2 ∨ k = 3 ∨ k = 4 ∨ k = 5 by omega) with rfl | rfl | rfl | rfl | rfl | rfl <;> simp [goalP] <;> omega
theorem goal1 {fx lw k : Nat} (hk : k ≤ 5) : (fx : Int) + (lw : Int) * (2 ^ ((k : Nat) : Int).toNat - 1) * 1 = ((fx + lw * goalP k 1 : Nat) : Int) := by
  rcases (show k = 0 ∨ k = 1 ∨ k = 2 ∨ k = 3 ∨ k = 4 ∨ k = 5 by omega) with rfl | rfl | rfl | rfl | rfl | rfl <;> simp [goalP] <;> omega
theorem lst8 {fa Z : Addr} {cd : Value} {md st la lw fx ay : Nat} {oZ : Obj} {s₁ : Shared} (X : (hd.heap_39 w.params).In s.heap) (T : Top hd.view_39 (looseW hd.view_39 [Str.ofString "_filemode_table"]) mean mg mb s.heap) (hlw : 0 < lw ∧ lw ≤ 16) (hla : la < 2) (hay : ay ≤ 5)
    (h : Lst s [(Z, oZ)] (N7 md st la lw fx Z ay) s₁) :
    wpAny (model PySem.Challenge.rw_pg0089_02.row.prog w) A (exec (lawSt 8) (envOf (Str.ofString "law") lawScope s.heap.objs.size fa cd)) (nx (Lst s [(Z, oZ)] (N8 md st la lw fx Z ay (fx + lw * goalP ay la)))) NoE s₁ := by
  revert X; k_fill; intro X
  conv in (lawSt _) => whnf
  conv in lawScope => whnf; zeta
  obtain ⟨h1, tk1, m, rfl, F, N, ⟨⟨⟨⟨⟨t1, hm1⟩, ⟨t2, hm2⟩, ⟨t3, hm3⟩⟩, ⟨t4, hm4⟩⟩, ⟨t5, hm5⟩⟩, hm6⟩, ⟨t7, hm7⟩⟩ := h
  rcases (show la = 0 ∨ la = 1 by omega) with rfl | rfl
  all_goals
    k_steps
    all_goals (try k_data)
  all_goals
    rename Fr _ _ _ _ => F'
    rename News _ _ _ _ => N'
    refine ⟨rfl, _, _, _, rfl, F', N', ⟨⟨⟨⟨⟨⟨_, by with_unfolding_all exact hm1⟩, ⟨_, by with_unfolding_all exact hm2⟩, ⟨_, by with_unfolding_all exact hm3⟩⟩, ⟨_, by with_unfolding_all exact hm4⟩⟩, ⟨_, by with_unfolding_all exact hm5⟩⟩, by with_unfolding_all exact hm6⟩, ⟨_, by with_unfolding_all exact hm7⟩⟩, ?_⟩
  · rw [← goal0 hay]
    exact ⟨_, by with_unfolding_all rfl⟩
  · rw [← goal1 hay]
    exact ⟨_, by with_unfolding_all rfl⟩
def N9 (md st la lw fx : Nat) (Z : Addr) (ay g : Nat) (K : Addr) (m : Str → Option Value) : Prop := N8 md st la lw fx Z ay g m ∧ m (Str.ofString "told") = some (.ref K)
theorem lst9 {fa Z : Addr} {cd : Value} {md st la lw fx ay g : Nat} {oZ : Obj} {s₁ : Shared} (X : (hd.heap_39 w.params).In s.heap) (T : Top hd.view_39 (looseW hd.view_39 [Str.ofString "_filemode_table"]) mean mg mb s.heap)
    (h : Lst s [(Z, oZ)] (N8 md st la lw fx Z ay g) s₁) :
    wpAny (model PySem.Challenge.rw_pg0089_02.row.prog w) A (exec (lawSt 9) (envOf (Str.ofString "law") lawScope s.heap.objs.size fa cd)) (nx fun s' => ∃ K, @Ne Nat K Z ∧ Lst s [(K, LCg.lst []), (Z, oZ)] (N9 md st la lw fx Z ay g K) s') NoE s₁ := by
  revert X; k_fill; intro X
  conv in (lawSt _) => whnf
  conv in lawScope => whnf; zeta
  obtain ⟨h1, tk1, m, rfl, F, N, ⟨⟨⟨⟨⟨⟨t1, hm1⟩, ⟨t2, hm2⟩, ⟨t3, hm3⟩⟩, ⟨t4, hm4⟩⟩, ⟨t5, hm5⟩⟩, hm6⟩, ⟨t7, hm7⟩⟩, ⟨t8, hm8⟩⟩ := h
  k_steps
  all_goals (try k_data)
  rename Fr _ _ _ _ => F'
  rename News _ _ _ _ => N'
  rename Z < _ => hlt
  exact ⟨rfl, _, Nat.ne_of_gt hlt, _, _, _, rfl, F', N', ⟨⟨⟨⟨⟨⟨⟨_, by with_unfolding_all exact hm1⟩, ⟨_, by with_unfolding_all exact hm2⟩, ⟨_, by with_unfolding_all exact hm3⟩⟩, ⟨_, by with_unfolding_all exact hm4⟩⟩, ⟨_, by with_unfolding_all exact hm5⟩⟩, by with_unfolding_all exact hm6⟩, ⟨_, by with_unfolding_all exact hm7⟩⟩, ⟨_, by with_unfolding_all exact hm8⟩⟩, by with_unfolding_all rfl⟩
end
end
/-! NO -/
theorem fresh_NO : True ∧ True := by
  w_top off
  first
    | (walk1; done)
    | exact ⟨trivial, trivial⟩
section
set_option maxRecDepth 100000
set_option maxHeartbeats 4000000
/-- a made triple of numbers, the first one a mode -/
def TupO (fx lw : Nat) (e : Nat × Nat × Nat) (o : Obj) : Prop := ∃ t1 t2 t3 n, o = { cls := .type "tuple", data := .seq #[.int ((fx + lw * e.1 : Nat) : Int) t1, .int (e.2.1 : Int) t2, .int (e.2.2 : Int) t3] n }
theorem tupO_mk {fx lw r f g n : Nat} {t1 t2 t3 : Tok} {x : Int} (e : x = ((fx + lw * r : Nat) : Int)) : TupO fx lw (r, f, g) { cls := .type "tuple", data := .seq #[.int x t1, .int (f : Int) t2, .int (g : Int) t3] n } := by
  subst e; exact ⟨_, _, _, _, rfl⟩
theorem TupO.is {fx lw : Nat} {e : Nat × Nat × Nat} {o : Obj} (h : TupO fx lw e o) : o.cls = .type "tuple" := by obtain ⟨_, _, _, _, rfl⟩ := h; rfl
def TupsAre (fx lw : Nat) (tps : List (Addr × Obj)) (es : List (Nat × Nat × Nat)) : Prop := Paired (fun (p : Addr × Obj) e => TupO fx lw e p.2) tps es
def toldTo (a last i : Nat) : List (Nat × Nat × Nat) := ((List.range i).filter fun r => pop5 r = a).map fun r => (r, unlikeN r last - 1, waysN (unlikeN r last))
theorem told_yes {a last i : Nat} (h : pop5 i = a) : toldTo a last (i + 1) = toldTo a last i ++ [(i, unlikeN i last - 1, waysN (unlikeN i last))] := by
  unfold toldTo; rw [List.range_succ, List.filter_append, List.map_append]; simp [h]
theorem told_no {a last i : Nat} (h : pop5 i ≠ a) : toldTo a last (i + 1) = toldTo a last i := by
  unfold toldTo; rw [List.range_succ, List.filter_append, List.map_append]; simp [h]
def refsOf (tps : List (Addr × Obj)) : List Value := tps.map fun p => .ref p.1
section
variable {w : World} {A : Around} {E : Value → Shared → Prop} {s : Shared} {mean : ExcName → Option Value} {mg mb : Str → Option Value}
local macro_rules | `(tactic| walk_at "subscriptTail") => `(tactic| (k_here; (refine stop_call ?_)))
local macro_rules | `(tactic| walk_at "subscriptTail Name Name ref int") => `(tactic| (k_here; (refine stop_call ?_)))
local macro_rules | `(tactic| walk_at "call ref") => `(tactic| (k_here; (with_reducible show wpAny _ _ (call (Value.ref _) _) _ _ _); (refine stop_call ?_)))
local macro_rules | `(tactic| walk_at "unpackItems ref") => `(tactic| (k_here; (refine stop_call ?_)))
local macro_rules | `(tactic| walk_at "call builtin:list.append") => `(tactic| (k_here; (refine stop_call ?_)))
theorem ne_of_obj {h₀ h : Heap} {L a b : Addr} {o p : Obj} {news : List (Addr × Obj)} (N : News h₀ L h news) (ha : (a, o) ∈ news) (hb : (b, p) ∈ news) (hc : o.cls ≠ p.cls) : @Ne Nat a b := by
  intro e
  have e' : a = b := e
  subst e'
  have h1 := (N _ ha).1
  have h2 := (N _ hb).1
  rw [show h.get? a = some p from h2] at h1
  exact hc (congrArg Obj.cls (Option.some.inj h1)).symm
theorem off_snoc {I : Addr} {tps : List (Addr × Obj)} {p : Addr × Obj} (h : Off I tps) (hp : @Ne Nat p.1 I) : Off I (tps ++ [p]) := by
  intro b hb
  rw [List.map_append] at hb
  rcases List.mem_append.mp hb with hb | hb
  · exact h b hb
  · rcases List.mem_cons.mp hb with rfl | hb
    · exact hp
    · cases hb
theorem tups_snoc {fx lw : Nat} {tps : List (Addr × Obj)} {es : List (Nat × Nat × Nat)} {p : Addr × Obj} {e : Nat × Nat × Nat} (h : TupsAre fx lw tps es) (hp : TupO fx lw e p.2) : TupsAre fx lw (tps ++ [p]) (es ++ [e]) := Paired.snoc h hp
theorem tups_len {fx lw : Nat} {tps : List (Addr × Obj)} {es : List (Nat × Nat × Nat)} (h : TupsAre fx lw tps es) : tps.length = es.length := Paired.length h
theorem told_len {a last i : Nat} : (toldTo a last i).length ≤ i := by
  unfold toldTo; rw [List.length_map]; exact Nat.le_trans (List.length_filter_le _ _) (by simp)
theorem re10 {a b c d : Addr × Obj} {l : List (Addr × Obj)} : ∀ x ∈ b :: a :: c :: (l ++ [d]), x ∈ a :: d :: b :: c :: l := by
  intro x hx
  simp only [List.mem_cons, List.mem_append, List.not_mem_nil, or_false] at hx ⊢
  rcases hx with h | h | h | h | h <;> simp [h]
theorem re11 {a b c d e : Addr × Obj} {l : List (Addr × Obj)} : ∀ x ∈ a :: d :: b :: c :: l, x ∈ d :: e :: b :: a :: c :: l := by
  intro x hx
  simp only [List.mem_cons] at hx ⊢
  rcases hx with h | h | h | h | h <;> simp [h]
def J10 (s : Shared) (I K Z : Addr) (oZ : Obj) (md st la lw fx ay g : Nat) (i : Nat) (s' : Shared) : Prop :=
  ∃ tps, TupsAre fx lw tps (toldTo ay la i) ∧ Off K tps ∧ Off I tps ∧ Lst s ((I, rangeO (i : Int) (32 - (i : Int)) 1) :: (K, LCg.lst (refsOf tps)) :: (Z, oZ) :: tps) (N9 md st la lw fx Z ay g K) s'
theorem fin10 {prog : Program} {I K Z D D' : Addr} {o od oZ : Obj} {h : Heap} {tk md st la lw fx ay g i : Nat} {m : Str → Option Value} {tps : List (Addr × Obj)} {Q : Value → Shared → Prop} (F : Fr s.heap s.heap.objs.size h m)
    (N : News s.heap s.heap.objs.size h ((D', od) :: (D, o) :: (I, rangeO ((i : Int) + 1) (32 - (i : Int) - 1) 1) :: (K, LCg.lst (refsOf tps)) :: (Z, oZ) :: tps)) (hod : TupO fx lw (i, unlikeN i la - 1, waysN (unlikeN i la)) od)
    (hb : pop5 i = ay) (hKI : @Ne Nat K I) (hKZ : @Ne Nat K Z) (hi32 : i < 32) (htp : TupsAre fx lw tps (toldTo ay la i)) (offK : Off K tps) (offI : Off I tps) (hm : N9 md st la lw fx Z ay g K m)
    (hQ : ∀ s', J10 s I K Z oZ md st la lw fx ay g (i + 1) s' → Q .none s') :
    wpAny (model prog w) A (call (.builtin "list.append") [.ref K, .ref D']) Q NoE { s with heap := h, toks := tk } := by
  have hlen := tups_len htp
  have htl := told_len (a := ay) (last := la) (i := i)
  have hDK := ne_of_obj N at0 at3 (by rw [hod.is]; show Value.type "tuple" ≠ Value.type "list"; decide)
  have hDI := ne_of_obj N at0 at2 (by rw [hod.is]; show Value.type "tuple" ≠ Value.type "range_iterator"; decide)
  refine append_L (s := ⟨h, _, _, _, _⟩) F (news_sub N re11) (off_cons hDK (off_cons (Ne.symm hKI) (off_cons (Ne.symm hKZ) offK))) (by rw [refsOf, List.length_map, PySem.sizeLine_eq]; omega) fun h6 F6 N6 => ?_
  have N7 := news_sub N6 re10
  rw [show refsOf tps ++ [Value.ref D'] = refsOf (tps ++ [(D', od)]) by simp [refsOf], show (i : Int) + 1 = ((i + 1 : Nat) : Int) by omega, show (32 : Int) - (i : Int) - 1 = 32 - ((i + 1 : Nat) : Int) by omega] at N7
  exact hQ _ ⟨tps ++ [(D', od)], by rw [told_yes hb]; exact tups_snoc htp hod, off_snoc (p := (D', od)) offK hDK, off_snoc (p := (D', od)) offI hDI, h6, _, m, rfl, F6, N7, hm⟩
theorem loop10 {fa I K Z : Addr} {cd : Value} {md st la lw fx ay g n i : Nat} {vs : List Value} {s₁ : Shared} (X : (hd.heap_39 w.params).In s.heap) (T : Top hd.view_39 (looseW hd.view_39 [Str.ofString "_filemode_table"]) mean mg mb s.heap) (hh : A.handled = none) (hdp : A.depth + 9 < recursionLimit) (hi : IntsAre vs (sizesN.map Int.ofNat)) (hi32 : i < 32) (hlw : lw ≤ 16) (hKI : @Ne Nat K I) (hZI : @Ne Nat Z I) (hKZ : @Ne Nat K Z)
    {Q : Flow → Shared → Prop} (hQ : ∀ s', J10 s I K Z (W.listOf vs.toArray n) md st la lw fx ay g (i + 1) s' → Q .next s')
    {tps : List (Addr × Obj)} (htp : TupsAre fx lw tps (toldTo ay la i)) (offK : Off K tps) (offI : Off I tps)
    (h : Lst s ((I, rangeO ((i : Int) + 1) (32 - (i : Int) - 1) 1) :: (K, LCg.lst (refsOf tps)) :: (Z, W.listOf vs.toArray n) :: tps) (fun m => N9 md st la lw fx Z ay g K m ∧ HasI m (Str.ofString "picture") i) s₁) :
    wpAny (model PySem.Challenge.rw_pg0089_02.row.prog w) A (execs (forBody (lawSt 10)) (envOf (Str.ofString "law") lawScope s.heap.objs.size fa cd)) Q NoE s₁ := by
  revert X; k_fill; intro X
  conv in (forBody (lawSt _)) => whnf
  conv in lawScope => whnf; zeta
  obtain ⟨h1, tk1, m, rfl, F, N, ⟨⟨⟨⟨⟨⟨⟨⟨t1, hm1⟩, ⟨t2, hm2⟩, ⟨t3, hm3⟩⟩, ⟨t4, hm4⟩⟩, ⟨t5, hm5⟩⟩, hm6⟩, ⟨t7, hm7⟩⟩, ⟨t8, hm8⟩⟩, hm9⟩, ⟨t10, hm10⟩⟩ := h
  refine execs_stop (wpAny_If (wpAny_stop ?_))
  k_steps
  all_goals (try k_data)
  unfold Stop
  refine item_nat (s := ⟨_, _, _, _, _⟩) i (N.isList at2) hi rfl (by rw [sizes_len]; exact hi32) (by rw [sizes_len]; decide) fun t6 => ?_
  rw [sizes_get _ hi32]
  try dsimp only
  k_steps
  all_goals (try k_data)
  · rename (_ : Int) = _ => hb
    have hb' : pop5 i = ay := by omega
    unfold Stop
    refine told_A (s := ⟨_, _, _, _, _⟩) (last := la) (Frag.In.keeps X F.keep) (Top.keeps T F.keep) (by omega) hh hi32 fun h3 tk3 D o tf tw hk3 hn3 ho3 hc3 hd3 => ?_
    obtain ⟨nd, hd3⟩ := hd3
    have F3 := fr_kp F hk3
    have N3 := news_more2 F N hk3 hn3 ho3
    refine assign_pair (s := ⟨h3, _, _, _, _⟩) hh ⟨o, ho3, hc3, nd, hd3⟩ fun h4 hk4 => ?_
    have F4 := fr_kp F3 hk4
    have N4 := news_kp N3 hk4
    clear F N F3 N3
    try dsimp only
    k_steps
    all_goals (try k_data)
    unfold Stop
    rename Fr _ _ _ _ => F5
    rename News _ _ _ _ => N5
    refine fin10 (s := s) F5 N5 (tupO_mk (by norm_cast)) hb' hKI hKZ hi32 htp offK offI ⟨⟨⟨⟨⟨⟨⟨⟨_, by with_unfolding_all exact hm1⟩, ⟨_, by with_unfolding_all exact hm2⟩, ⟨_, by with_unfolding_all exact hm3⟩⟩, ⟨_, by with_unfolding_all exact hm4⟩⟩, ⟨_, by with_unfolding_all exact hm5⟩⟩, by with_unfolding_all exact hm6⟩, ⟨_, by with_unfolding_all exact hm7⟩⟩, ⟨_, by with_unfolding_all exact hm8⟩⟩, by with_unfolding_all exact hm9⟩ fun s' hJ => ?_
    refine wpAny_execs_nil ?_
    try dsimp only
    refine wpAny_execs_nil ?_
    exact hQ _ hJ
  · rename (_ : Int) ≠ _ => hb
    have hb' : pop5 i ≠ ay := by omega
    refine hQ _ ⟨tps, by rw [told_no hb']; exact htp, offK, offI, h1, _, m, rfl, F, ?_, ⟨⟨⟨⟨⟨⟨⟨⟨t1, hm1⟩, ⟨t2, hm2⟩, ⟨t3, hm3⟩⟩, ⟨t4, hm4⟩⟩, ⟨t5, hm5⟩⟩, hm6⟩, ⟨t7, hm7⟩⟩, ⟨t8, hm8⟩⟩, hm9⟩⟩
    rw [show ((i + 1 : Nat) : Int) = (i : Int) + 1 by omega, show (32 : Int) - ((i : Int) + 1) = 32 - (i : Int) - 1 by omega]
    exact N
end
end
/-! NP -/
theorem fresh_NP : True ∧ True := by
  w_top off
  first
    | (walk1; done)
    | exact ⟨trivial, trivial⟩
section
set_option maxRecDepth 100000
set_option maxHeartbeats 4000000
section
variable {w : World} {A : Around} {E : Value → Shared → Prop} {s : Shared} {mean : ExcName → Option Value} {mg mb : Str → Option Value}
theorem lst10 {fa K Z : Addr} {cd : Value} {md st la lw fx ay g n : Nat} {vs : List Value} {s₁ : Shared} (X : (hd.heap_39 w.params).In s.heap) (T : Top hd.view_39 (looseW hd.view_39 [Str.ofString "_filemode_table"]) mean mg mb s.heap) (hh : A.handled = none) (hdp : A.depth + 9 < recursionLimit) (hi : IntsAre vs (sizesN.map Int.ofNat)) (hlw : lw ≤ 16) (hKZ : @Ne Nat K Z)
    (h : Lst s [(K, LCg.lst []), (Z, W.listOf vs.toArray n)] (N9 md st la lw fx Z ay g K) s₁) :
    wpAny (model PySem.Challenge.rw_pg0089_02.row.prog w) A (exec (lawSt 10) (envOf (Str.ofString "law") lawScope s.heap.objs.size fa cd))
      (nx fun s' => ∃ tps, TupsAre fx lw tps (toldTo ay la 32) ∧ Off K tps ∧ Lst s ((K, LCg.lst (refsOf tps)) :: tps) (N9 md st la lw fx Z ay g K) s') NoE s₁ := by
  revert X; k_fill; intro X
  have hbody : forBody (lawSt 10) = forBody (lawSt 10) := rfl
  conv in (lawSt _) => whnf
  conv in lawScope => whnf; zeta
  obtain ⟨h1, tk1, m, rfl, F, N, hm⟩ := h
  refine forA ?_
  k_steps
  all_goals (try k_data)
  rename Fr _ _ _ _ => F3
  rename News _ _ _ _ => N3
  rename IsRange _ _ _ _ _ _ _ _ => hr
  refine range_enter (s := ⟨_, _, _, _, _⟩) hr (by decide) 32 (by decide) F3 N3 fun I h4 F4 N4 off => ?_
  try dsimp only
  clear F3 N3
  have hKI : @Ne Nat K I := off _ (.head _)
  have hZI : @Ne Nat Z I := off _ (.tail _ (.head _))
  refine forA_inv 32 (J10 s I K Z (W.listOf vs.toArray n) md st la lw fx ay g) ?_ ?_ 32 0 _ rfl (Nat.zero_le _) ?_
  · rintro i s' hi32 ⟨tps, htp, offK, offI, h, tk, m', rfl, F5, N5, hm5⟩
    refine range_turn (s := ⟨h, _, _, _, _⟩) F5 N5 (off_cons hKI (off_cons hZI offI)) (by omega) fun h6 F6 N6 => ?_
    clear F4 N4 F5 N5
    refine wpAny_assign_Name (store_L2 (s := ⟨h6, _, _, _, _⟩) F6 N6 rfl (fun h7 F7 N7 => ?_) (by rfl) (by rfl))
    refine loop10 X T hh hdp hi hi32 hlw hKI hZI hKZ (fun s' hJ => hJ) htp offK offI ⟨h7, _, _, rfl, F7, N7, ?_, ⟨_, by with_unfolding_all rfl⟩⟩
    obtain ⟨⟨⟨⟨⟨⟨⟨⟨t1, hm1⟩, ⟨t2, hm2⟩, ⟨t3, hm3⟩⟩, ⟨t4, hm4⟩⟩, ⟨t5, hm5⟩⟩, hm6⟩, ⟨t7, hm7⟩⟩, ⟨t8, hm8⟩⟩, hm9⟩ := hm5
    exact ⟨⟨⟨⟨⟨⟨⟨⟨_, by with_unfolding_all exact hm1⟩, ⟨_, by with_unfolding_all exact hm2⟩, ⟨_, by with_unfolding_all exact hm3⟩⟩, ⟨_, by with_unfolding_all exact hm4⟩⟩, ⟨_, by with_unfolding_all exact hm5⟩⟩, by with_unfolding_all exact hm6⟩, ⟨_, by with_unfolding_all exact hm7⟩⟩, ⟨_, by with_unfolding_all exact hm8⟩⟩, by with_unfolding_all exact hm9⟩
  · rintro s' ⟨tps, htp, offK, offI, h, tk, m', rfl, F5, N5, hm5⟩
    refine range_done (s := ⟨h, _, _, _, _⟩) hh F5 N5 (off_cons hKI (off_cons hZI offI)) (by omega) fun h6 F6 N6 => ?_
    refine wpAny_execs_nil ?_
    exact ⟨rfl, tps, htp, offK, h6, _, m', rfl, F6, news_sub N6 (sub_cons at0 fun x hx => .tail _ (.tail _ hx)), hm5⟩
  · have e0 : TupsAre fx lw [] (toldTo ay la 0) := Paired.nil
    have o0 : ∀ I : Addr, Off I [] := fun I b hb => by cases hb
    have e1 : (32 : Int) - ((0 : Nat) : Int) = 32 := rfl
    refine ⟨[], e0, o0 K, o0 I, h4, _, m, rfl, F4, ?_, hm⟩
    rw [e1]
    exact N4
end
end
/-! Tabs -/
section
set_option maxRecDepth 100000
set_option maxHeartbeats 4000000
/-! dicts from modes to numbers, against lists of pictures -/
def keyN (fx lw r : Nat) : Int := ((fx + lw * r : Nat) : Int)
theorem keyN_inj {fx lw a b : Nat} (h : 0 < lw) : keyN fx lw a = keyN fx lw b ↔ a = b := by
  unfold keyN
  constructor
  · intro e
    have e' : lw * a = lw * b := by omega
    exact Nat.eq_of_mul_eq_mul_left h e'
  · rintro rfl; rfl
def PairN (fx lw : Nat) (p : Int × Value) (e : Nat × Nat) : Prop := p.1 = keyN fx lw e.1 ∧ ∃ t, p.2 = .int (e.2 : Int) t
def TabN (fx lw : Nat) (kvs : List (Int × Value)) (l : List (Nat × Nat)) : Prop := Paired (PairN fx lw) kvs l
theorem tab_at {fx lw q : Nat} (h0 : 0 < lw) : ∀ {kvs : List (Int × Value)} {l : List (Nat × Nat)}, TabN fx lw kvs l → hasN l q = true → ∃ t, valueAt kvs (keyN fx lw q) = some (.int (getN l q : Int) t)
  | _, _, .nil, h => by cases h
  | (k, v) :: kvs, (a, b) :: l, .cons ⟨h1, t, h2⟩ r, h => by
    dsimp only at h1 h2
    subst h1 h2
    unfold valueAt getN
    rw [List.find?_cons, List.find?_cons]
    by_cases e : a = q
    · subst e
      simp
    · have e2 : ¬ keyN fx lw a = keyN fx lw q := fun z => e ((keyN_inj h0).mp z)
      simp only [decide_eq_false e, decide_eq_false e2]
      refine tab_at h0 r ?_
      simpa [hasN, e] using h
theorem tab_none {fx lw q : Nat} (h0 : 0 < lw) : ∀ {kvs : List (Int × Value)} {l : List (Nat × Nat)}, TabN fx lw kvs l → hasN l q = false → valueAt kvs (keyN fx lw q) = none
  | _, _, .nil, _ => rfl
  | (k, v) :: kvs, (a, b) :: l, .cons ⟨h1, t, h2⟩ r, h => by
    dsimp only at h1 h2
    subst h1 h2
    have h' : ¬ a = q ∧ hasN l q = false := by simpa [hasN] using h
    have e2 : ¬ keyN fx lw a = keyN fx lw q := fun z => h'.1 ((keyN_inj h0).mp z)
    have ih := tab_none h0 r h'.2
    unfold valueAt at ih ⊢
    rw [List.find?_cons]
    simp only [decide_eq_false e2]
    exact ih
theorem tab_is {fx lw q : Nat} (h0 : 0 < lw) {kvs : List (Int × Value)} {l : List (Nat × Nat)} (h : TabN fx lw kvs l) : (valueAt kvs (keyN fx lw q)).isSome = hasN l q := by
  cases e : hasN l q with
  | true => obtain ⟨t, ht⟩ := tab_at h0 h e; rw [ht]; rfl
  | false => rw [tab_none h0 h e]; rfl
theorem tab_any {fx lw q : Nat} (h0 : 0 < lw) : ∀ {kvs : List (Int × Value)} {l : List (Nat × Nat)}, TabN fx lw kvs l → kvs.any (fun kv => kv.1 = keyN fx lw q) = hasN l q
  | _, _, .nil => rfl
  | (k, v) :: kvs, (a, b) :: l, .cons ⟨h1, t, h2⟩ r => by
    dsimp only at h1 h2
    subst h1 h2
    have ih := tab_any (q := q) h0 r
    unfold hasN at ih ⊢
    rw [List.any_cons, List.any_cons, ih]
    congr 1
    exact decide_eq_decide.mpr (keyN_inj h0)
theorem tab_map {fx lw q v : Nat} {t : Tok} (h0 : 0 < lw) : ∀ {kvs : List (Int × Value)} {l : List (Nat × Nat)}, TabN fx lw kvs l →
    TabN fx lw (kvs.map fun kv => if kv.1 = keyN fx lw q then (kv.1, .int (v : Int) t) else kv) (l.map fun p => if p.1 = q then (p.1, v) else p)
  | _, _, .nil => .nil
  | (k, x) :: kvs, (a, b) :: l, .cons ⟨h1, t1, h2⟩ r => by
    dsimp only at h1 h2
    subst h1 h2
    rw [List.map_cons, List.map_cons]
    refine .cons ?_ (tab_map h0 r)
    by_cases e : a = q
    · subst e; simp only [if_true]; exact ⟨rfl, _, rfl⟩
    · have e2 : ¬ keyN fx lw a = keyN fx lw q := fun z => e ((keyN_inj h0).mp z)
      rw [if_neg e2, if_neg e]; exact ⟨rfl, _, rfl⟩
theorem tab_set {fx lw q v : Nat} {t : Tok} (h0 : 0 < lw) {kvs : List (Int × Value)} {l : List (Nat × Nat)} (h : TabN fx lw kvs l) : TabN fx lw (stored kvs (keyN fx lw q) (.int (v : Int) t)) (setN l q v) := by
  unfold stored setN
  rw [tab_any h0 h]
  cases hasN l q with
  | true => exact tab_map h0 h
  | false => exact Paired.snoc h ⟨rfl, _, rfl⟩
theorem tab_len {fx lw : Nat} {kvs : List (Int × Value)} {l : List (Nat × Nat)} (h : TabN fx lw kvs l) : kvs.length = l.length := Paired.length h
end
/-! RA -/
theorem fresh_RA : True ∧ True := by
  w_top off
  first
    | (walk1; done)
    | exact ⟨trivial, trivial⟩
section
set_option maxRecDepth 100000
set_option maxHeartbeats 4000000
section
variable {w : World} {A : Around} {E : Value → Shared → Prop} {s : Shared} {mean : ExcName → Option Value} {mg mb : Str → Option Value}
local macro_rules | `(tactic| walk_at "unpackItems ref") => `(tactic| (k_here; (refine stop_call ?_)))
/-- the two dicts of the search, and its three cells -/
structure DT (prog : Program) (w : World) (fx lw : Nat) (few ways : List (Nat × Nat)) (v3 : Option Value) (Df Dw : Addr) (fo wo o1 o2 o3 : Obj) (kf kw : List (Int × Value)) : Prop where
  sf : (Df == sysModules) = false
  sw : (Dw == sysModules) = false
  ne : @Ne Nat Df Dw
  df : fo.IsDictOf (intKind prog w) kf
  tf : TabN fx lw kf few
  dw : wo.IsDictOf (intKind prog w) kw
  tw : TabN fx lw kw ways
  c1 : o1.data = .cell (some (.ref Df))
  c2 : o2.data = .cell (some (.ref Dw))
  c3 : o3.data = .cell v3
def dnews (s : Shared) (Df Dw : Addr) (fo wo o1 o2 o3 : Obj) (ex : List (Addr × Obj)) : List (Addr × Obj) :=
  (Df, fo) :: (Dw, wo) :: (s.heap.objs.size + 1 + 1 + 1, o3) :: (s.heap.objs.size + 1 + 1, o2) :: (s.heap.objs.size + 1, o1) :: ex
def Rst (prog : Program) (w : World) (s : Shared) (fx lw : Nat) (few ways : List (Nat × Nat)) (v3 : Option Value) (ex : List (Addr × Obj)) (P : (Str → Option Value) → Prop) (s' : Shared) : Prop :=
  ∃ Df Dw fo wo o1 o2 o3 kf kw, DT prog w fx lw few ways v3 Df Dw fo wo o1 o2 o3 kf kw ∧ Lst s (dnews s Df Dw fo wo o1 o2 o3 ex) P s'
def keysOf (fx lw : Nat) (ring : List Nat) : List Int := ring.map (keyN fx lw)
def RB (st : Nat) (kp : Int) (m : Str → Option Value) : Prop := HasI m (Str.ofString "start") st ∧ HasI m (Str.ofString "keep") kp
def R1 (st : Nat) (kp : Int) (R : Addr) (m : Str → Option Value) : Prop := RB st kp m ∧ m (Str.ofString "ring") = some (.ref R)
theorem re0 {t l v f c d e : Addr × Obj} : ∀ x ∈ f :: v :: c :: d :: e :: [l], x ∈ [t, l, v, f, c, d, e] := by
  intro x hx
  simp only [List.mem_cons, List.not_mem_nil, or_false] at hx ⊢
  rcases hx with h | h | h | h | h | h <;> simp [h]
theorem rst0 {fa : Addr} {cd : Value} {o1 o2 o3 : Obj} {v1 v2 v3 : Option Value} {fx lw gp st : Nat} {kp : Int} {s₁ : Shared} (X : (hd.heap_39 w.params).In s.heap) (T : Top hd.view_39 (looseW hd.view_39 [Str.ofString "_filemode_table"]) mean mg mb s.heap) (hh : A.handled = none)
    (hc1 : o1.data = .cell v1) (hc2 : o2.data = .cell v2) (hc3 : o3.data = .cell v3)
    (h : Lst s [(s.heap.objs.size + 1 + 1 + 1, o3), (s.heap.objs.size + 1 + 1, o2), (s.heap.objs.size + 1, o1)] (fun m => HasI m (Str.ofString "goal") (keyN fx lw gp) ∧ RB st kp m) s₁) :
    wpAny (model PySem.Challenge.rw_pg0089_02.row.prog w) A (exec (reachSt 0) (envOfC (Str.ofString "_law_reached") reachScope s.heap.objs.size fa cd))
      (nx fun s' => ∃ R vs n, IntsAre vs (keysOf fx lw [gp]) ∧ Rst PySem.Challenge.rw_pg0089_02.row.prog w s fx lw (bstart gp).few (bstart gp).ways v3 [(R, W.listOf vs.toArray n)] (R1 st kp R) s') NoE s₁ := by
  revert X; k_fill; intro X
  conv in (reachSt _) => whnf
  conv in reachScope => whnf; zeta
  obtain ⟨h1, tk1, m, rfl, F, N, ⟨t1, hm1⟩, ⟨t2, hm2⟩, ⟨t3, hm3⟩⟩ := h
  k_steps
  with_reducible refine Dict_made (knd := intKind _ _) (by with_unfolding_all assumption) (by with_unfolding_all rfl) (by with_unfolding_all rfl) (List.cons_ne_nil _ _) (by with_unfolding_all decide) fun _ => ?_
  with_reducible refine pairTrees_cons_walk ?_
  k_steps
  any_goals (first | exact Str.ofString "" | exact (0 : Addr) | exact Value.none)
  dsimp only at *
  rename Obj.IsDictOf _ _ _ => hfo
  rename (_ == sysModules) = false => lo1
  with_reducible refine Dict_made (knd := intKind _ _) (by with_unfolding_all assumption) (by with_unfolding_all rfl) (by with_unfolding_all rfl) (List.cons_ne_nil _ _) (by with_unfolding_all decide) fun _ => ?_
  with_reducible refine pairTrees_cons_walk ?_
  k_steps
  any_goals (first | exact Str.ofString "" | exact (0 : Addr) | exact Value.none)
  dsimp only at *
  rename Obj.IsDictOf _ _ _ => hwo
  rename (_ == sysModules) = false => lo2
  try k_data
  rename Fr _ _ _ _ => F2
  rename News _ _ _ _ => N2
  refine unpackN_ (s := ⟨_, _, _, _, _⟩) F2 N2 (N2.isTup at0) hh (by with_unfolding_all rfl) (by with_unfolding_all rfl) ?_
  intro h3 F3 N3
  clear F2 N2
  k_steps
  all_goals (try k_data)
  rename Fr _ _ _ _ => F'
  rename News _ _ _ _ => N'
  refine ⟨rfl, _, [_], _, .cons _ _ .nil, _, _, _, _, _, _, _, _, _, ⟨lo1, lo2, ?_, hfo, .cons ⟨rfl, _, rfl⟩ .nil, hwo, .cons ⟨rfl, _, rfl⟩ .nil, by assumption, by assumption, hc3⟩, _, _, _, rfl, F', news_sub N' re0, ⟨⟨_, by with_unfolding_all exact hm2⟩, ⟨_, by with_unfolding_all exact hm3⟩⟩, by with_unfolding_all rfl⟩
  omega
end
end
/-! Math4 -/
section
set_option maxRecDepth 100000
set_option maxHeartbeats 4000000
def okFlip (st c : Nat) : Bool := (List.range 32).all fun r => valB st (flipB c (bitsB 5 r)) == 512 / 2 ^ (st + 5) * nextC c r && decide (nextC c r < 32)
theorem okF : ((List.range 5).all fun st => (List.range 6).all (okFlip st)) = true := by decide +kernel
theorem flip_val {st c r : Nat} (hst : st + 5 ≤ 9) (hc : c < 6) (hr : r < 32) : valB st (flipB c (bitsB 5 r)) = 512 / 2 ^ (st + 5) * nextC c r ∧ nextC c r < 32 := by
  have h1 := List.all_eq_true.mp okF st (List.mem_range.mpr (by omega))
  have h2 := List.all_eq_true.mp h1 c (List.mem_range.mpr hc)
  have h3 := List.all_eq_true.mp h2 r (List.mem_range.mpr hr)
  simpa using h3
/-- one step's end: what is left of the mode, and the worth of the signs, a front turned about -/
theorem flip_eq {st fx r c : Nat} {kp : Int} (hst : st + 5 ≤ 9) (hc : c < 6) (hr : r < 32) (hfx : fx / 2 ^ (9 - st - 5) % 2 ^ 5 = 0)
    (hn : fx + 2 ^ (9 - st - 5) * r < 65536) (hq : (fx + 2 ^ (9 - st - 5) * r) / 2 ^ (9 - st - 5) % 2 ^ 5 = r) (hkp : kp = ((2 ^ (9 - st - 5) : Nat) : Int) * (2 ^ 5 - 1)) :
    Builtin.bitAnd ((fx + 2 ^ (9 - st - 5) * r : Nat) : Int) 61440 + Builtin.bitAnd (Builtin.bitAnd ((fx + 2 ^ (9 - st - 5) * r : Nat) : Int) 4095) (4095 - kp) +
      ((worthTo (flipL c (stretch (fx + 2 ^ (9 - st - 5) * r) st 5)).toArray st (flipL c (stretch (fx + 2 ^ (9 - st - 5) * r) st 5)).toArray.size : Nat) : Int) = ((fx + 2 ^ (9 - st - 5) * nextC c r : Nat) : Int) := by
  obtain ⟨hl1, hl2, hl3⟩ := low_le (sz := 5) (.inl rfl) hst
  have hrest := rest_eq (n := fx + 2 ^ (9 - st - 5) * r) (.inl rfl) hst hn
  rw [hq] at hrest
  have e1 : (4095 : Int) - kp = ((4095 - 2 ^ (9 - st - 5) * (2 ^ 5 - 1) : Nat) : Int) := by
    have h2 : (1 : Nat) ≤ 2 ^ 5 := Nat.one_le_two_pow
    rw [hkp, Int.natCast_sub hl1, Int.natCast_mul, Int.natCast_sub h2]
    norm_cast
  have e2 : (61440 : Int) = ((61440 : Nat) : Int) := rfl
  have e3 : (4095 : Int) = ((4095 : Nat) : Int) := rfl
  rw [e1, e2, e3, bitAnd_nat, bitAnd_nat, bitAnd_nat]
  have hw : worthTo (flipL c (stretch (fx + 2 ^ (9 - st - 5) * r) st 5)).toArray st (flipL c (stretch (fx + 2 ^ (9 - st - 5) * r) st 5)).toArray.size = 2 ^ (9 - st - 5) * nextC c r := by
    rw [List.size_toArray, worth_val _ (Nat.le_refl _), List.take_length, flip_held, stretch_bits hst hr hfx, (flip_val hst hc hr).1, low_eq hst]
  rw [hw]
  norm_cast
  omega
/-! the search keeps its books straight -/
theorem has_set {l : List (Nat × Nat)} {q v r : Nat} : hasN (setN l q v) r = (hasN l r || decide (q = r)) := by
  unfold setN
  cases h : hasN l q with
  | true =>
    rw [if_pos rfl]
    have e : hasN (l.map fun p => if p.1 = q then (p.1, v) else p) r = hasN l r := by
      unfold hasN
      rw [List.any_map]
      congr 1
      funext p
      simp only [Function.comp]
      split <;> rfl
    rw [e]
    by_cases hq : q = r
    · subst hq; rw [h]; rfl
    · simp [hq]
  | false =>
    rw [if_neg (by decide)]
    simp [hasN, List.any_append]
theorem set_len {l : List (Nat × Nat)} {q v : Nat} : (setN l q v).length ≤ l.length + 1 ∧ l.length ≤ (setN l q v).length := by
  unfold setN
  split <;> simp
structure WF (ring : List Nat) (σ : Bst) : Prop where
  hk : ∀ r, hasN σ.ways r = hasN σ.few r
  hf : ∀ r ∈ σ.fresh, hasN σ.few r = true ∧ r < 32
  hr : ∀ r ∈ ring, hasN σ.few r = true ∧ r < 32
theorem WF.step2 {ring : List Nat} {σ : Bst} {p q : Nat} (h : WF ring σ) (hq : q < 32) : WF ring (bst2 σ p q) ∧ hasN (bst2 σ p q).few q = true := by
  unfold bst2
  cases e : hasN σ.few q with
  | true => rw [if_pos rfl]; exact ⟨h, e⟩
  | false =>
    rw [if_neg (by decide)]
    refine ⟨⟨fun r => ?_, fun r hr => ?_, fun r hr => ?_⟩, ?_⟩
    · show hasN (setN _ _ _) r = hasN (setN _ _ _) r
      rw [has_set, has_set, h.hk]
    · show hasN (setN _ _ _) r = true ∧ _
      rw [has_set]
      rcases List.mem_append.mp hr with hr | hr
      · rw [(h.hf r hr).1]; exact ⟨rfl, (h.hf r hr).2⟩
      · rw [List.mem_singleton.mp hr]; exact ⟨by simp, hq⟩
    · show hasN (setN _ _ _) r = true ∧ _
      rw [has_set, (h.hr r hr).1]; exact ⟨rfl, (h.hr r hr).2⟩
    · show hasN (setN _ _ _) q = true
      rw [has_set]; simp
theorem WF.step3 {ring : List Nat} {σ : Bst} {p q : Nat} (h : WF ring σ) (hq : hasN σ.few q = true) : WF ring (bst3 σ p q) := by
  unfold bst3
  split
  · refine ⟨fun r => ?_, h.hf, h.hr⟩
    show hasN (setN _ _ _) r = _
    rw [has_set, h.hk]
    by_cases e : q = r
    · subst e; rw [hq]; rfl
    · simp [e]
  · exact h
theorem WF.step {ring : List Nat} {σ : Bst} {c p : Nat} (h : WF ring σ) (hc : c < 6) (hp : p ∈ ring) : WF ring (bstep c σ p) := by
  have hq := (flip_val (st := 0) (by omega) hc (h.hr p hp).2).2
  obtain ⟨h2, h3⟩ := h.step2 (p := p) hq
  exact h2.step3 h3
theorem WF.steps {c : Nat} (hc : c < 6) {ring : List Nat} : ∀ (l : List Nat) {σ : Bst}, (∀ p ∈ l, p ∈ ring) → WF ring σ → WF ring (l.foldl (bstep c) σ)
  | [], _, _, h => h
  | p :: l, _, hl, h => WF.steps hc l (fun q hq => hl q (.tail _ hq)) (h.step hc (hl p (.head _)))
theorem WF.cuts {ring : List Nat} : ∀ (l : List Nat) {σ : Bst}, (∀ c ∈ l, c < 6) → WF ring σ → WF ring (l.foldl (bcut ring) σ)
  | [], _, _, h => h
  | c :: l, _, hl, h => WF.cuts l (fun q hq => hl q (.tail _ hq)) (WF.steps (hl c (.head _)) ring (fun _ hq => hq) h)
theorem WF.start {g : Nat} (hg : g < 32) : WF [g] ⟨(bstart g).few, (bstart g).ways, []⟩ := by
  refine ⟨fun r => rfl, fun r hr => (by cases hr), fun r hr => ?_⟩
  rw [List.mem_singleton.mp hr]
  exact ⟨by simp [bstart, hasN], hg⟩
theorem WF.fresh {ring : List Nat} {σ : Bst} (h : WF ring σ) : WF σ.fresh ⟨σ.few, σ.ways, []⟩ := ⟨h.hk, fun r hr => (by cases hr), h.hf⟩
theorem WF.run {g : Nat} (hg : g < 32) : ∀ k, WF (brun g k).fresh ⟨(brun g k).few, (brun g k).ways, []⟩
  | 0 => WF.start hg
  | k + 1 => (WF.cuts [2, 3, 4, 5] (by decide) (WF.run hg k)).fresh
/-! sizes -/
def lens (σ : Bst) (n f : Nat) : Prop := σ.few.length ≤ n ∧ σ.ways.length ≤ n ∧ σ.fresh.length ≤ f
theorem len2 {σ : Bst} {p q n f : Nat} (h : lens σ n f) : lens (bst2 σ p q) (n + 1) (f + 1) := by
  obtain ⟨a, b, c⟩ := h
  unfold bst2
  split
  · exact ⟨by omega, by omega, by omega⟩
  · refine ⟨Nat.le_trans set_len.1 (by omega), Nat.le_trans set_len.1 (by omega), ?_⟩
    show (σ.fresh ++ [q]).length ≤ _
    rw [List.length_append, List.length_singleton]; omega
theorem len_bst3 {σ : Bst} {p q n f : Nat} (h : lens σ n f) : lens (bst3 σ p q) (n + 1) f := by
  obtain ⟨a, b, c⟩ := h
  unfold bst3
  split
  · exact ⟨by show σ.few.length ≤ _; omega, Nat.le_trans set_len.1 (by omega), c⟩
  · exact ⟨by omega, by omega, c⟩
theorem len_step {σ : Bst} {c p n f : Nat} (h : lens σ n f) : lens (bstep c σ p) (n + 2) (f + 1) := len_bst3 (len2 h)
theorem len_steps {c : Nat} : ∀ (l : List Nat) {σ : Bst} {n f : Nat}, lens σ n f → lens (l.foldl (bstep c) σ) (n + 2 * l.length) (f + l.length)
  | [], _, _, _, h => h
  | p :: l, σ, n, f, h => by
    have := len_steps (c := c) l (len_step (c := c) (p := p) h)
    rw [List.foldl_cons, List.length_cons]
    rw [show n + 2 * (l.length + 1) = n + 2 + 2 * l.length by omega, show f + (l.length + 1) = f + 1 + l.length by omega]
    exact this
theorem len_cuts {ring : List Nat} : ∀ (l : List Nat) {σ : Bst} {n f : Nat}, lens σ n f → lens (l.foldl (bcut ring) σ) (n + 2 * ring.length * l.length) (f + ring.length * l.length)
  | [], _, n, f, h => by simpa using h
  | c :: l, σ, n, f, h => by
    have := len_cuts (ring := ring) l (show lens (bcut ring σ c) _ _ from len_steps (c := c) ring h)
    rw [List.foldl_cons, List.length_cons]
    rw [show n + 2 * ring.length * (l.length + 1) = n + 2 * ring.length + 2 * ring.length * l.length by rw [Nat.mul_succ]; omega, show f + ring.length * (l.length + 1) = f + ring.length + ring.length * l.length by rw [Nat.mul_succ]; omega]
    exact this
def goals : List Nat := (List.range 6).flatMap fun a => [goalP a 0, goalP a 1]
theorem goal_facts : (goals.all fun g => decide (g < 32) && (List.range 8).all fun k => decide ((brun g k).few.length ≤ 10) && decide ((brun g k).ways.length ≤ 10) && decide ((brun g k).fresh.length ≤ 10) && (decide (k < 6) || (brun g k).fresh.isEmpty)) = true := by decide +kernel
theorem found_told : ((List.range 6).all fun a => (List.range 2).all fun l => foundN a l == toldN a l) = true := by decide +kernel
theorem brun_more {g k : Nat} (h : (brun g k).fresh = []) : ∀ j, brun g (k + j) = brun g k
  | 0 => rfl
  | j + 1 => by
    show bround (brun g (k + j)) = _
    rw [brun_more h j]
    unfold bround
    rw [h]
    show (⟨_, _, _⟩ : Bst) = _
    cases e : brun g k
    rw [e] at h
    subst h
    rfl
end
/-! RB -/
theorem fresh_RB : True ∧ True := by
  w_top off
  first
    | (walk1; done)
    | exact ⟨trivial, trivial⟩
section
set_option maxRecDepth 100000
set_option maxHeartbeats 4000000
def rchB (k : Nat) : Stmt := nthOf k (forBody (reachSt 1))
def rowS (k : Nat) : Stmt := nthOf k (forBody (rchB 1))
def cutS (k : Nat) : Stmt := nthOf k (forBody (rchB 2))
def plcS (k : Nat) : Stmt := nthOf k (forBody (cutS 2))
section
variable {w : World} {A : Around} {E : Value → Shared → Prop} {s : Shared} {mean : ExcName → Option Value} {mg mb : Str → Option Value}
local macro_rules | `(tactic| walk_at "subscriptTail") => `(tactic| (k_here; (refine stop_call ?_)))
local macro_rules | `(tactic| walk_at "compareOp NotIn int ref") => `(tactic| (k_here; (refine stop_call ?_)))
local macro_rules | `(tactic| walk_at "setItem ref int") => `(tactic| (k_here; (refine stop_call ?_)))
local macro_rules | `(tactic| walk_at "call builtin:list.append") => `(tactic| (k_here; (refine stop_call ?_)))
theorem d_notin {prog : Program} {K : Type} [DecidableEq K] {knd : KeyKind prog w K} {h₀ : Heap} {L d : Addr} {news : List (Addr × Obj)} {o : Obj} {kvs : List (K × Value)} {k : K} {key : Value} {Q : Value → Shared → Prop} (N : News h₀ L s.heap news) (hp : (d, o) ∈ news) (hd : o.IsDictOf knd kvs)
    (lo : (d == sysModules) = false) (hkey : knd.is k key = true) (b : Bool) (hb : (valueAt kvs k).isSome = b) (h : Q (.bool (!b)) { s with toks := s.toks + 1 }) : wpAny (model prog w) A (compareOp .NotIn key (.ref d)) Q E s :=
  wpAny_notIn_of hkey lo (kda_dict N hp hd).mapOf (by rw [hb]; exact h)
theorem name_cell {M : Model} {h₀ : Heap} {L a c : Addr} {cn x : Str} {cs : Scope} {ccd v : Value} {pos : Pos} {news : List (Addr × Obj)} {o : Obj} {Q : Value → Shared → Prop} (hx : (envOfC cn cs L a ccd).kindOf x = some .cell) (hc : (cellsFrom (L + 1) cs.names []).lookup x = some c) (hk : cs.kind = .function) (hb : (x == ("__debug__" : Str)) = false)
    (N : News h₀ L s.heap news) (hm : (c, o) ∈ news) (hd : o.data = .cell (some v)) (h : Q v s) : wpAny M A (eval (.Name x pos) (envOfC cn cs L a ccd)) Q E s :=
  nameX_C (cl := cellsFrom (L + 1) cs.names []) N hc hm hd h hk hx hb
local macro_rules | `(tactic| walk_at "eval Name") => `(tactic| (k_here; (with_reducible show wpAny _ _ (eval (Expr.Name _ _) (envOfC _ _ _ _ _)) _ _ _); k_dflt (refine name_cell (by rfl) (by rfl) (by rfl) (by decide) (by k_asm) (by k_mem) (by k_asm) ?_)))
def NoDict (ex : List (Addr × Obj)) : Prop := ∀ p ∈ ex, ∀ es ep, p.2.data ≠ .dict es ep
theorem ne_dict {prog : Program} {K : Type} [DecidableEq K] {knd : KeyKind prog w K} {h₀ h : Heap} {L d : Addr} {news : List (Addr × Obj)} {o : Obj} {kvs : List (K × Value)} {p : Addr × Obj} (N : News h₀ L h news) (hd : o.IsDictOf knd kvs) (hm : (d, o) ∈ news) (hp : p ∈ news) (hn : ∀ es ep, p.2.data ≠ .dict es ep) : p.1 ≠ d := by
  intro e
  have h1 := (N _ hm).1
  have h2 := (N _ hp).1
  rw [e] at h2
  rw [show h.get? d = some p.2 from h2] at h1
  obtain ⟨es, ep, _, hdt, _⟩ := hd
  exact hn es ep ((congrArg Obj.data (Option.some.inj h1)).trans hdt)
section
variable {prog : Program} {fx lw : Nat} {few ways : List (Nat × Nat)} {v3 : Option Value} {Df Dw : Addr} {fo wo o1 o2 o3 : Obj} {kf kw : List (Int × Value)} {h₀ h : Heap} {L : Addr} {m : Str → Option Value} {s0 : Shared} {ex : List (Addr × Obj)}
theorem DT.updF (D : DT prog w fx lw few ways v3 Df Dw fo wo o1 o2 o3 kf kw) (N : News h₀ L h (dnews s0 Df Dw fo wo o1 o2 o3 ex)) (hex : NoDict ex) :
    UpdF Df fo (dnews s0 Df Dw fo wo o1 o2 o3 ex) (fun o' => dnews s0 Df Dw o' wo o1 o2 o3 ex) := by
  refine UpdF.head fun p hp => ?_
  rcases List.mem_cons.mp hp with rfl | hp2
  · exact fun e => D.ne e.symm
  refine ne_dict N D.df (.head _) (.tail _ hp) ?_
  rcases List.mem_cons.mp hp2 with rfl | hp2
  · intro es ep e; rw [D.c3] at e; cases e
  rcases List.mem_cons.mp hp2 with rfl | hp2
  · intro es ep e; rw [D.c2] at e; cases e
  rcases List.mem_cons.mp hp2 with rfl | hp2
  · intro es ep e; rw [D.c1] at e; cases e
  exact hex p hp2
theorem DT.updW (D : DT prog w fx lw few ways v3 Df Dw fo wo o1 o2 o3 kf kw) (N : News h₀ L h (dnews s0 Df Dw fo wo o1 o2 o3 ex)) (hex : NoDict ex) :
    UpdF Dw wo (dnews s0 Df Dw fo wo o1 o2 o3 ex) (fun o' => dnews s0 Df Dw fo o' o1 o2 o3 ex) := by
  refine UpdF.tail D.ne (UpdF.head fun p hp => ?_)
  refine ne_dict N D.dw (.tail _ (.head _)) (.tail _ (.tail _ hp)) ?_
  rcases List.mem_cons.mp hp with rfl | hp2
  · intro es ep e; rw [D.c3] at e; cases e
  rcases List.mem_cons.mp hp2 with rfl | hp2
  · intro es ep e; rw [D.c2] at e; cases e
  rcases List.mem_cons.mp hp2 with rfl | hp2
  · intro es ep e; rw [D.c1] at e; cases e
  exact hex p hp2
theorem ne_data {news : List (Addr × Obj)} {a b : Addr × Obj} (N : News h₀ L h news) (ha : a ∈ news) (hb : b ∈ news) (hne : a.2.data ≠ b.2.data) : a.1 ≠ b.1 := by
  intro e
  have h1 := (N _ ha).1
  have h2 := (N _ hb).1
  rw [e] at h1
  rw [show h.get? b.1 = some b.2 from h2] at h1
  exact hne (congrArg Obj.data (Option.some.inj h1)).symm
theorem DT.updZ {Z : Addr} {o o' : Obj} {a : Array Value} {n : Nat} (D : DT prog w fx lw few ways v3 Df Dw fo wo o1 o2 o3 kf kw) (N : News h₀ L h (dnews s0 Df Dw fo wo o1 o2 o3 ((Z, o) :: ex))) (hz : o.data = .seq a n) (offZ : Off Z ex) :
    Upd Z o o' (dnews s0 Df Dw fo wo o1 o2 o3 ((Z, o) :: ex)) (dnews s0 Df Dw fo wo o1 o2 o3 ((Z, o') :: ex)) := by
  have hm : (Z, o) ∈ dnews s0 Df Dw fo wo o1 o2 o3 ((Z, o) :: ex) := at5
  refine .tail ?_ (.tail ?_ (.tail ?_ (.tail ?_ (.tail ?_ (.head ?_)))))
  · obtain ⟨es, ep, _, hd, _⟩ := D.df
    exact ne_data N at0 hm (by show fo.data ≠ o.data; rw [hd, hz]; intro e; cases e)
  · obtain ⟨es, ep, _, hd, _⟩ := D.dw
    exact ne_data N at1 hm (by show wo.data ≠ o.data; rw [hd, hz]; intro e; cases e)
  · exact ne_data N at2 hm (by show o3.data ≠ o.data; rw [D.c3, hz]; intro e; cases e)
  · exact ne_data N at3 hm (by show o2.data ≠ o.data; rw [D.c2, hz]; intro e; cases e)
  · exact ne_data N at4 hm (by show o1.data ≠ o.data; rw [D.c1, hz]; intro e; cases e)
  · intro p hp e
    exact offZ p.1 (List.mem_map.mpr ⟨p, hp, rfl⟩) e
theorem set_few {q v : Nat} {tk t : Tok} {x : Int} {Q : Unit → Shared → Prop} (D : DT prog w fx lw few ways v3 Df Dw fo wo o1 o2 o3 kf kw) (hlw : 0 < lw) (F : Fr h₀ L s.heap m) (N : News h₀ L s.heap (dnews s0 Df Dw fo wo o1 o2 o3 ex)) (hex : NoDict ex) (hsz : few.length ≤ 100000) (hx : x = (v : Int))
    (h : ∀ h' fo' kf', Fr h₀ L h' m → News h₀ L h' (dnews s0 Df Dw fo' wo o1 o2 o3 ex) → DT prog w fx lw (setN few q v) ways v3 Df Dw fo' wo o1 o2 o3 kf' kw → Q () { s with heap := h', toks := s.toks + 1 }) :
    wpAny (model prog w) A (setItem (.ref Df) (.int (keyN fx lw q) tk) (.int x t)) Q E s := by
  subst hx
  refine kda_set F N (D.updF N hex) D.df (intKind_is _ _ _ _) (by rw [tab_len D.tf, sizeLine_eq]; omega) fun h' o' F' N' hd' => ?_
  exact h h' o' _ F' N' { D with df := hd', tf := tab_set hlw D.tf }
theorem set_ways {q v : Nat} {tk t : Tok} {x : Int} {Q : Unit → Shared → Prop} (D : DT prog w fx lw few ways v3 Df Dw fo wo o1 o2 o3 kf kw) (hlw : 0 < lw) (F : Fr h₀ L s.heap m) (N : News h₀ L s.heap (dnews s0 Df Dw fo wo o1 o2 o3 ex)) (hex : NoDict ex) (hsz : ways.length ≤ 100000) (hx : x = (v : Int))
    (h : ∀ h' wo' kw', Fr h₀ L h' m → News h₀ L h' (dnews s0 Df Dw fo wo' o1 o2 o3 ex) → DT prog w fx lw few (setN ways q v) v3 Df Dw fo wo' o1 o2 o3 kf kw' → Q () { s with heap := h', toks := s.toks + 1 }) :
    wpAny (model prog w) A (setItem (.ref Dw) (.int (keyN fx lw q) tk) (.int x t)) Q E s := by
  subst hx
  refine kda_set F N (D.updW N hex) D.dw (intKind_is _ _ _ _) (by rw [tab_len D.tw, sizeLine_eq]; omega) fun h' o' F' N' hd' => ?_
  exact h h' o' _ F' N' { D with dw := hd', tw := tab_set hlw D.tw }
theorem get_few {value slice : Expr} {q : Nat} {tk : Tok} {Q : Value → Shared → Prop} (D : DT prog w fx lw few ways v3 Df Dw fo wo o1 o2 o3 kf kw) (hlw : 0 < lw) (N : News h₀ L s.heap (dnews s0 Df Dw fo wo o1 o2 o3 ex)) (hq : hasN few q = true)
    (h : ∀ t, Q (.int (getN few q : Int) t) { s with toks := s.toks + 1 })
    (hs : subscripted slice false (.ref Df) (.int (keyN fx lw q) tk) = operate [.ref Df, .int (keyN fx lw q) tk] (getItem (.ref Df) (.int (keyN fx lw q) tk)) := by with_unfolding_all rfl) (hg : ∀ r, letTemporaryGo value (.ref Df) r = pure () := by intro _; with_unfolding_all rfl) :
    wpAny (model prog w) A (subscriptTail value slice (.ref Df) (.int (keyN fx lw q) tk)) Q E s := by
  obtain ⟨t, ht⟩ := tab_at hlw D.tf hq
  exact kda_item N (.head _) D.df (intKind_is _ _ _ _) ht (h t) hs hg
theorem get_ways_own {q : Nat} {tk : Tok} {Q : Value → Shared → Prop} (D : DT prog w fx lw few ways v3 Df Dw fo wo o1 o2 o3 kf kw) (hlw : 0 < lw) (N : News h₀ L s.heap (dnews s0 Df Dw fo wo o1 o2 o3 ex)) (hq : hasN ways q = true)
    (h : ∀ t, Q (.int (getN ways q : Int) t) { s with toks := s.toks + 1 }) : wpAny (model prog w) A (getItem (.ref Dw) (.int (keyN fx lw q) tk)) Q E s := by
  obtain ⟨t, ht⟩ := tab_at hlw D.tw hq
  exact wpAny_getItem_of (intKind_is _ _ _ _) (kda_dict N (.tail _ (.head _)) D.dw).mapOf ht (h t)
theorem get_ways {value slice : Expr} {q : Nat} {tk : Tok} {Q : Value → Shared → Prop} (D : DT prog w fx lw few ways v3 Df Dw fo wo o1 o2 o3 kf kw) (hlw : 0 < lw) (N : News h₀ L s.heap (dnews s0 Df Dw fo wo o1 o2 o3 ex)) (hq : hasN ways q = true)
    (h : ∀ t, Q (.int (getN ways q : Int) t) { s with toks := s.toks + 1 })
    (hs : subscripted slice false (.ref Dw) (.int (keyN fx lw q) tk) = operate [.ref Dw, .int (keyN fx lw q) tk] (getItem (.ref Dw) (.int (keyN fx lw q) tk)) := by with_unfolding_all rfl) (hg : ∀ r, letTemporaryGo value (.ref Dw) r = pure () := by intro _; with_unfolding_all rfl) :
    wpAny (model prog w) A (subscriptTail value slice (.ref Dw) (.int (keyN fx lw q) tk)) Q E s := by
  obtain ⟨t, ht⟩ := tab_at hlw D.tw hq
  exact kda_item N (.tail _ (.head _)) D.dw (intKind_is _ _ _ _) ht (h t) hs hg
end
/-- what is known of the names, beside ring's, in the round: rows, fresh -/
def PI (st : Nat) (kp : Int) (R K Z : Addr) (m : Str → Option Value) : Prop := R1 st kp R m ∧ m (Str.ofString "rows") = some (.ref K) ∧ m (Str.ofString "fresh") = some (.ref Z)
def PC (st : Nat) (kp : Int) (R K Z : Addr) (fr : Array UInt8) (m : Str → Option Value) : Prop := PI st kp R K Z m ∧ ∃ t, m (Str.ofString "fronts") = some (.bytes fr t)
def PE (st : Nat) (kp : Int) (R K Z : Addr) (fr : Array UInt8) (i : Nat) (now : Int) (m : Str → Option Value) : Prop := PC st kp R K Z fr m ∧ HasI m (Str.ofString "place") i ∧ HasI m (Str.ofString "now") now
def PF (st : Nat) (kp : Int) (R K Z : Addr) (fr : Array UInt8) (i : Nat) (now thn : Int) (m : Str → Option Value) : Prop := PE st kp R K Z fr i now m ∧ HasI m (Str.ofString "then") thn
theorem e2 {fa R K Z : Addr} {cd : Value} {fx lw st i p q n : Nat} {kp : Int} {fr : Array UInt8} {v3 : Option Value} {σ : Bst} {ring : List Nat} {vs : List Value} {ex : List (Addr × Obj)} {s₁ : Shared} (X : (hd.heap_39 w.params).In s.heap) (T : Top hd.view_39 (looseW hd.view_39 [Str.ofString "_filemode_table"]) mean mg mb s.heap) (hh : A.handled = none) (hlw : 0 < lw)
    (hwf : WF ring σ) (hp : p ∈ ring) (hl : lens σ 10000 10000) (hex : NoDict ex) (offZ : Off Z ex) (hi : IntsAre vs (keysOf fx lw σ.fresh))
    (h : Rst PySem.Challenge.rw_pg0089_02.row.prog w s fx lw σ.few σ.ways v3 ((Z, W.listOf vs.toArray n) :: ex) (PF st kp R K Z fr i (keyN fx lw p) (keyN fx lw q)) s₁) :
    wpAny (model PySem.Challenge.rw_pg0089_02.row.prog w) A (exec (plcS 2) (envOfC (Str.ofString "_law_reached") reachScope s.heap.objs.size fa cd))
      (nx fun s' => ∃ vs' n', IntsAre vs' (keysOf fx lw (bst2 σ p q).fresh) ∧ Rst PySem.Challenge.rw_pg0089_02.row.prog w s fx lw (bst2 σ p q).few (bst2 σ p q).ways v3 ((Z, W.listOf vs'.toArray n') :: ex) (PF st kp R K Z fr i (keyN fx lw p) (keyN fx lw q)) s') NoE s₁ := by
  revert X; k_fill; intro X
  conv in (plcS _) => whnf
  conv in reachScope => whnf; zeta
  obtain ⟨Df, Dw, fo, wo, o1, o2, o3, kf, kw, D, h1, tk1, m, rfl, F, N, ⟨⟨⟨⟨⟨⟨⟨t1, hm1⟩, ⟨t2, hm2⟩⟩, hm3⟩, hm4, hm5⟩, ⟨t6, hm6⟩⟩, ⟨t7, hm7⟩, ⟨t8, hm8⟩⟩, ⟨t9, hm9⟩⟩⟩ := h
  have hc1 := D.c1
  have hc2 := D.c2
  have hc3 := D.c3
  unfold dnews at N
  have hexZ : NoDict ((Z, W.listOf vs.toArray n) :: ex) := by
    intro p hp es ep e
    rcases List.mem_cons.mp hp with rfl | hp
    · cases e
    · exact hex p hp es ep e
  have hl1 : σ.few.length ≤ 100000 := Nat.le_trans hl.1 (by decide)
  have hl2 : σ.ways.length ≤ 100000 := Nat.le_trans hl.2.1 (by decide)
  refine wpAny_If (wpAny_stop ?_)
  k_steps
  any_goals (first | exact Str.ofString "" | exact (0 : Addr) | exact Value.none)
  unfold Stop
  refine d_notin (s := ⟨h1, _, _, _, _⟩) N at0 D.df D.sf (intKind_is _ _ _ _) (hasN σ.few q) (tab_is hlw D.tf) ?_
  cases hq : hasN σ.few q with
  | true =>
    dsimp only [Bool.not_true]
    k_steps
    have e : bst2 σ p q = σ := by unfold bst2; rw [hq]; rfl
    rw [e]
    exact ⟨rfl, vs, n, hi, Df, Dw, fo, wo, o1, o2, o3, kf, kw, D, h1, _, m, rfl, F, N, ⟨⟨⟨⟨⟨⟨⟨t1, hm1⟩, ⟨t2, hm2⟩⟩, hm3⟩, hm4, hm5⟩, ⟨t6, hm6⟩⟩, ⟨t7, hm7⟩, ⟨t8, hm8⟩⟩, ⟨t9, hm9⟩⟩⟩
  | false =>
    dsimp only [Bool.not_false]
    (k_steps; try any_goals (first | exact Str.ofString "" | exact (0 : Addr) | exact Value.none))
    unfold Stop
    refine get_few (s := ⟨_, _, _, _, _⟩) D hlw N (hwf.hr p hp).1 fun t3 => ?_
    dsimp only
    (k_steps; try any_goals (first | exact Str.ofString "" | exact (0 : Addr) | exact Value.none))
    unfold Stop
    refine set_few (s := ⟨_, _, _, _, _⟩) (v := getN σ.few p + 1) D hlw F N hexZ hl1 (by omega) fun h2 fo2 kf2 F2 N2 D2 => ?_
    clear F N hc1 hc2 hc3
    have hc1 := D2.c1
    have hc2 := D2.c2
    have hc3 := D2.c3
    unfold dnews at N2
    dsimp only
    (k_steps; try any_goals (first | exact Str.ofString "" | exact (0 : Addr) | exact Value.none))
    unfold Stop
    refine set_ways (s := ⟨_, _, _, _, _⟩) (v := 0) D2 hlw F2 N2 hexZ hl2 rfl fun h3 wo3 kw3 F3 N3 D3 => ?_
    clear F2 N2 hc1 hc2 hc3
    have hc1 := D3.c1
    have hc2 := D3.c2
    have hc3 := D3.c3
    unfold dnews at N3
    dsimp only
    (k_steps; try any_goals (first | exact Str.ofString "" | exact (0 : Addr) | exact Value.none))
    unfold Stop
    have hvl : vs.toArray.size ≤ sizeLine := by
      have := ints_length hi
      rw [keysOf, List.length_map] at this
      rw [List.size_toArray, this, PySem.sizeLine_eq]; have := hl.2.2; omega
    refine append_K (s := ⟨_, _, _, _, _⟩) F3 N3 (D3.updZ N3 rfl offZ) (fun h4 F4 N4 => ?_) hvl
    clear F3 N3
    dsimp only
    (k_steps; try any_goals (first | exact Str.ofString "" | exact (0 : Addr) | exact Value.none))
    have e : bst2 σ p q = ⟨setN σ.few q (getN σ.few p + 1), setN σ.ways q 0, σ.fresh ++ [q]⟩ := by unfold bst2; rw [hq]; rfl
    rw [e]
    have e5 : vs.toArray.push (Value.int (keyN fx lw q) t9) = (vs ++ [Value.int (keyN fx lw q) t9]).toArray := List.push_toArray ..
    rw [e5] at N4
    refine ⟨rfl, _, _, ?_, Df, Dw, _, _, o1, o2, o3, _, _, D3, h4, _, m, rfl, F4, N4, ⟨⟨⟨⟨⟨⟨⟨t1, hm1⟩, ⟨t2, hm2⟩⟩, hm3⟩, hm4, hm5⟩, ⟨t6, hm6⟩⟩, ⟨t7, hm7⟩, ⟨t8, hm8⟩⟩, ⟨t9, hm9⟩⟩⟩
    rw [keysOf, List.map_append]
    exact intsAre_append hi (.cons _ _ .nil)
theorem e3 {fa R K Z : Addr} {cd : Value} {fx lw st i p q : Nat} {kp : Int} {fr : Array UInt8} {v3 : Option Value} {σ : Bst} {ring : List Nat} {ex : List (Addr × Obj)} {s₁ : Shared} (X : (hd.heap_39 w.params).In s.heap) (T : Top hd.view_39 (looseW hd.view_39 [Str.ofString "_filemode_table"]) mean mg mb s.heap) (hh : A.handled = none) (hlw : 0 < lw)
    (hwf : WF ring σ) (hp : p ∈ ring) (hq : hasN σ.few q = true) (hl : lens σ 20000 20000) (hex : NoDict ex)
    (h : Rst PySem.Challenge.rw_pg0089_02.row.prog w s fx lw σ.few σ.ways v3 ex (PF st kp R K Z fr i (keyN fx lw p) (keyN fx lw q)) s₁) :
    wpAny (model PySem.Challenge.rw_pg0089_02.row.prog w) A (exec (plcS 3) (envOfC (Str.ofString "_law_reached") reachScope s.heap.objs.size fa cd))
      (nx fun s' => Rst PySem.Challenge.rw_pg0089_02.row.prog w s fx lw (bst3 σ p q).few (bst3 σ p q).ways v3 ex (PF st kp R K Z fr i (keyN fx lw p) (keyN fx lw q)) s') NoE s₁ := by
  revert X; k_fill; intro X
  conv in (plcS _) => whnf
  conv in reachScope => whnf; zeta
  obtain ⟨Df, Dw, fo, wo, o1, o2, o3, kf, kw, D, h1, tk1, m, rfl, F, N, ⟨⟨⟨⟨⟨⟨⟨t1, hm1⟩, ⟨t2, hm2⟩⟩, hm3⟩, hm4, hm5⟩, ⟨t6, hm6⟩⟩, ⟨t7, hm7⟩, ⟨t8, hm8⟩⟩, ⟨t9, hm9⟩⟩⟩ := h
  have hc1 := D.c1
  have hc2 := D.c2
  have hc3 := D.c3
  have hl2 : σ.ways.length ≤ 100000 := Nat.le_trans hl.2.1 (by decide)
  unfold dnews at N
  refine wpAny_If (wpAny_stop ?_)
  (k_steps; try any_goals (first | exact Str.ofString "" | exact (0 : Addr) | exact Value.none))
  unfold Stop
  refine get_few (s := ⟨_, _, _, _, _⟩) D hlw N hq fun t3 => ?_
  dsimp only
  (k_steps; try any_goals (first | exact Str.ofString "" | exact (0 : Addr) | exact Value.none))
  unfold Stop
  refine get_few (s := ⟨_, _, _, _, _⟩) D hlw N (hwf.hr p hp).1 fun t4 => ?_
  dsimp only
  (k_steps; try any_goals (first | exact Str.ofString "" | exact (0 : Addr) | exact Value.none))
  · rename ((getN σ.few q : Nat) : Int) = _ => hb
    have hb' : getN σ.few q = getN σ.few p + 1 := by omega
    refine get_ways_own (s := ⟨_, _, _, _, _⟩) D hlw N (by rw [hwf.hk]; exact hq) fun t10 => ?_
    dsimp only
    (k_steps; try any_goals (first | exact Str.ofString "" | exact (0 : Addr) | exact Value.none))
    unfold Stop
    refine get_ways (s := ⟨_, _, _, _, _⟩) D hlw N (by rw [hwf.hk]; exact (hwf.hr p hp).1) fun t11 => ?_
    dsimp only
    (k_steps; try any_goals (first | exact Str.ofString "" | exact (0 : Addr) | exact Value.none))
    unfold Stop
    refine set_ways (s := ⟨_, _, _, _, _⟩) (v := getN σ.ways q + getN σ.ways p) D hlw F N hex hl2 (by omega) fun h3 wo3 kw3 F3 N3 D3 => ?_
    dsimp only
    (k_steps; try any_goals (first | exact Str.ofString "" | exact (0 : Addr) | exact Value.none))
    have e : bst3 σ p q = { σ with ways := setN σ.ways q (getN σ.ways q + getN σ.ways p) } := by unfold bst3; rw [if_pos hb']
    rw [e]
    exact ⟨rfl, Df, Dw, _, _, o1, o2, o3, _, _, D3, h3, _, m, rfl, F3, N3, ⟨⟨⟨⟨⟨⟨⟨t1, hm1⟩, ⟨t2, hm2⟩⟩, hm3⟩, hm4, hm5⟩, ⟨t6, hm6⟩⟩, ⟨t7, hm7⟩, ⟨t8, hm8⟩⟩, ⟨t9, hm9⟩⟩⟩
  · rename ¬ ((getN σ.few q : Nat) : Int) = _ => hb
    have hb' : ¬ getN σ.few q = getN σ.few p + 1 := by omega
    have e : bst3 σ p q = σ := by unfold bst3; rw [if_neg hb']
    rw [e]
    exact ⟨rfl, Df, Dw, _, _, o1, o2, o3, _, _, D, h1, _, m, rfl, F, N, ⟨⟨⟨⟨⟨⟨⟨t1, hm1⟩, ⟨t2, hm2⟩⟩, hm3⟩, hm4, hm5⟩, ⟨t6, hm6⟩⟩, ⟨t7, hm7⟩, ⟨t8, hm8⟩⟩, ⟨t9, hm9⟩⟩⟩
end
end
/-! RC -/
theorem fresh_RC : True ∧ True := by
  w_top off
  first
    | (walk1; done)
    | exact ⟨trivial, trivial⟩
section
set_option maxRecDepth 100000
set_option maxHeartbeats 4000000
section
variable {w : World} {A : Around} {E : Value → Shared → Prop} {s : Shared} {mean : ExcName → Option Value} {mg mb : Str → Option Value}
local macro_rules | `(tactic| walk_at "subscriptTail") => `(tactic| (k_here; (refine stop_call ?_)))
local macro_rules | `(tactic| walk_at "call ref") => `(tactic| (k_here; (with_reducible show wpAny _ _ (call (Value.ref _) _) _ _ _); (refine stop_call ?_)))
local macro_rules | `(tactic| walk_at "eval Name") => `(tactic| (k_here; (with_reducible show wpAny _ _ (eval (Expr.Name _ _) (envOfC _ _ _ _ _)) _ _ _); k_dflt (refine name_cell (by rfl) (by rfl) (by rfl) (by decide) (by k_asm) (by k_mem) (by k_asm) ?_)))
theorem flat_slice {c : Nat} : ∀ {xs : List (List UInt8)} {i : Nat}, (∀ x ∈ xs, x.length = c) → i < xs.length → (xs.flatten.drop (i * c)).take c = xs.getD i []
  | [], i, _, hi => by cases hi
  | x :: xs, 0, h, _ => by
    have := h x (.head _)
    rw [List.flatten_cons, Nat.zero_mul, List.drop_zero, List.take_append_of_le_length (by omega), List.take_of_length_le (by omega)]; rfl
  | x :: xs, i + 1, h, hi => by
    have hx := h x (.head _)
    rw [List.flatten_cons, List.drop_append, List.drop_of_length_le (by rw [hx, Nat.succ_mul]; omega), List.nil_append, hx, show (i + 1) * c - c = i * c by rw [Nat.succ_mul]; omega]
    exact flat_slice (fun y hy => h y (.tail _ hy)) (by simpa using hi)
theorem item_bytes {prog : Program} {value slice : Expr} {l : Addr} {ps : List (Array UInt8 × Tok)} {z : Int} {u : Tok} {Q : Value → Shared → Prop} (k : Nat) (hl : s.heap.IsList l (bvals ps).toArray) (hz : z = (k : Int)) (hk : k < ps.length) (hn : ps.length ≤ 4096)
    (h : ∀ b t, ps[k]? = some (b, t) → Q (.bytes b t) s)
    (hs : subscripted slice false (.ref l) (.int z u) = operate [.ref l, .int z u] (getItem (.ref l) (.int z u)) := by with_unfolding_all rfl) (hg : ∀ r, letTemporaryGo value (.ref l) r = pure () := by intro _; with_unfolding_all rfl) :
    wpAny (model prog w) A (subscriptTail value slice (.ref l) (.int z u)) Q E s := by
  subst hz
  rcases hb : ps[k] with ⟨b, t⟩
  have hv : ps[k]? = some (b, t) := by rw [List.getElem?_eq_getElem hk, hb]
  refine item_listL hl (by omega) (by omega) ?_ (h b t hv) hs hg
  rw [Int.toNat_natCast]; simp only [bvals, List.getElem?_map, hv]; rfl
theorem getD_map {α β : Type} {f : α → β} {d : β} {e : α} {i : Nat} (l : List α) (hi : i < l.length) : (l.map f).getD i d = f (l.getD i e) := by
  rw [List.getD_eq_getElem?_getD, List.getD_eq_getElem?_getD, List.getElem?_map, List.getElem?_eq_getElem hi]; rfl
theorem e0 {fa R K Z : Addr} {cd : Value} {fx lw st i c : Nat} {kp : Int} {now : Int} {fr : Array UInt8} {tc : Tok} {few ways : List (Nat × Nat)} {ps : List (Array UInt8 × Tok)} {ls : List (List UInt8)} {nK : Nat} {ex : List (Addr × Obj)} {s₁ : Shared} (X : (hd.heap_39 w.params).In s.heap) (T : Top hd.view_39 (looseW hd.view_39 [Str.ofString "_filemode_table"]) mean mg mb s.heap) (hh : A.handled = none)
    (hK : (K, W.listOf (bvals ps).toArray nK) ∈ ex) (hps : ps.map (·.1) = ls.map List.toArray) (hls : ∀ l ∈ ls, l.length = 5) (hc : c ≤ 5) (hn : ls.length ≤ 100) (hi : i < ls.length) (hfr : fr = (ls.map fun l => (l.take c).reverse).flatten.toArray)
    (h : Rst PySem.Challenge.rw_pg0089_02.row.prog w s fx lw few ways (some (.int (c : Int) tc)) ex (PE st kp R K Z fr i now) s₁) :
    wpAny (model PySem.Challenge.rw_pg0089_02.row.prog w) A (exec (plcS 0) (envOfC (Str.ofString "_law_reached") reachScope s.heap.objs.size fa cd))
      (nx fun s' => Rst PySem.Challenge.rw_pg0089_02.row.prog w s fx lw few ways (some (.int (c : Int) tc)) ex (fun m => PE st kp R K Z fr i now m ∧ ∃ t, m (Str.ofString "row") = some (.bytes (flipL c (ls.getD i [])).toArray t)) s') NoE s₁ := by
  revert X; k_fill; intro X
  conv in (plcS _) => whnf
  conv in reachScope => whnf; zeta
  obtain ⟨Df, Dw, fo, wo, o1, o2, o3, kf, kw, D, h1, tk1, m, rfl, F, N, ⟨⟨⟨⟨⟨⟨t1, hm1⟩, ⟨t2, hm2⟩⟩, hm3⟩, hm4, hm5⟩, ⟨t6, hm6⟩⟩, ⟨t7, hm7⟩, ⟨t8, hm8⟩⟩⟩ := h
  have hc3 := D.c3
  subst hfr
  unfold dnews at N
  have hxs : ∀ x ∈ ls.map (fun l => (l.take c).reverse), x.length = c := by
    intro x hx
    obtain ⟨l, hl, rfl⟩ := List.mem_map.mp hx
    rw [List.length_reverse, List.length_take, hls l hl]; omega
  have hlen : (ls.map fun l => (l.take c).reverse).flatten.length = ls.length * c := by rw [flat_len hxs, List.length_map]
  have hle : i * c + c ≤ ls.length * c := by rw [← Nat.succ_mul]; exact Nat.mul_le_mul_right _ hi
  have hle2 : ls.length * c ≤ 100 * 5 := Nat.mul_le_mul hn hc
  have hpl : ps.length = ls.length := by have := congrArg List.length hps; simpa using this
  (k_steps; try any_goals (first | exact Str.ofString "" | exact (0 : Addr) | exact Value.none))
  all_goals (try k_data)
  unfold Stop
  refine cut_slice (s := ⟨h1, _, _, _, _⟩) (b := (ls.map fun l => (l.take c).reverse).flatten) (p := i * c) (q := i * c + c) (.int _ _) (.int _ _) (by omega)
    (by show clipAt _ ((i : Int) * (c : Int)) = _; rw [← Int.natCast_mul]; exact clip_in (by omega)) (by show clipAt _ ((i : Int) * (c : Int) + (c : Int)) = _; rw [← Int.natCast_mul, ← Int.natCast_add]; exact clip_in (by omega)) F N fun h2 t10 k2 F2 N2 => ?_
  clear F N
  rw [show i * c + c - i * c = c by omega, flat_slice hxs (by rw [List.length_map]; exact hi), getD_map (e := []) _ hi]
  dsimp only
  (k_steps; try any_goals (first | exact Str.ofString "" | exact (0 : Addr) | exact Value.none))
  all_goals (try k_data)
  unfold Stop
  refine item_bytes (s := ⟨_, _, _, _, _⟩) (ps := ps) i (N2.isList (by exact .tail _ (.tail _ (.tail _ (.tail _ (.tail _ hK)))))) rfl (by omega) (by omega) fun b t11 hb => ?_
  have eb : b = (ls.getD i []).toArray := by
    have h3 : (ps.map (·.1))[i]? = some b := by rw [List.getElem?_map, hb]; rfl
    rw [hps, List.getElem?_map, List.getElem?_eq_getElem hi] at h3
    rw [List.getD_eq_getElem?_getD, List.getElem?_eq_getElem hi]
    exact (Option.some.inj h3).symm
  subst eb
  have hl5 : (ls.getD i []).length = 5 := by
    rw [List.getD_eq_getElem?_getD, List.getElem?_eq_getElem hi]; exact hls _ (List.getElem_mem hi)
  try dsimp only
  (k_steps; try any_goals (first | exact Str.ofString "" | exact (0 : Addr) | exact Value.none))
  all_goals (try k_data)
  unfold Stop
  refine cut_slice (s := ⟨h2, _, _, _, _⟩) (b := ls.getD i []) (p := c) (q := 5) (.int _ _) .none (by omega) (clip_in (by omega)) hl5 F2 N2 fun h3 t12 k3 F3 N3 => ?_
  clear F2 N2
  rw [show ((ls.getD i []).drop c).take (5 - c) = (ls.getD i []).drop c from List.take_of_length_le (by rw [List.length_drop]; omega)]
  refine KBy.add_bytes (by simp only [List.size_toArray, List.length_take, List.length_reverse, List.length_drop]; omega) fun t16 k16 => ?_
  rw [List.append_toArray]
  dsimp only
  (k_steps; try any_goals (first | exact Str.ofString "" | exact (0 : Addr) | exact Value.none))
  all_goals (try k_data)
  rename Fr _ _ _ _ => F'
  rename News _ _ _ _ => N'
  exact ⟨rfl, Df, Dw, fo, wo, o1, o2, o3, kf, kw, D, _, _, _, rfl, F', N', ⟨⟨⟨⟨⟨⟨_, by with_unfolding_all exact hm1⟩, ⟨_, by with_unfolding_all exact hm2⟩⟩, by with_unfolding_all exact hm3⟩, by with_unfolding_all exact hm4, by with_unfolding_all exact hm5⟩, ⟨_, by with_unfolding_all exact hm6⟩⟩, ⟨_, by with_unfolding_all exact hm7⟩, ⟨_, by with_unfolding_all exact hm8⟩⟩, ⟨_, by with_unfolding_all rfl⟩⟩
theorem e1 {fa R K Z : Addr} {cd : Value} {fx lw st i now now' : Nat} {kp : Int} {fr : Array UInt8} {v3 : Option Value} {few ways : List (Nat × Nat)} {row : List UInt8} {ex : List (Addr × Obj)} {s₁ : Shared} (X : (hd.heap_39 w.params).In s.heap) (T : Top hd.view_39 (looseW hd.view_39 [Str.ofString "_filemode_table"]) mean mg mb s.heap) (hh : A.handled = none) (hdp : A.depth + 9 < recursionLimit)
    (hnow : Builtin.bitAnd (now : Int) 61440 + Builtin.bitAnd (Builtin.bitAnd (now : Int) 4095) kp + ((worthTo row.toArray st row.toArray.size : Nat) : Int) = (now' : Int))
    (h : Rst PySem.Challenge.rw_pg0089_02.row.prog w s fx lw few ways v3 ex (fun m => PE st kp R K Z fr i (now : Int) m ∧ ∃ t, m (Str.ofString "row") = some (.bytes row.toArray t)) s₁) :
    wpAny (model PySem.Challenge.rw_pg0089_02.row.prog w) A (exec (plcS 1) (envOfC (Str.ofString "_law_reached") reachScope s.heap.objs.size fa cd))
      (nx fun s' => Rst PySem.Challenge.rw_pg0089_02.row.prog w s fx lw few ways v3 ex (PF st kp R K Z fr i (now : Int) (now' : Int)) s') NoE s₁ := by
  revert X; k_fill; intro X
  conv in (plcS _) => whnf
  conv in reachScope => whnf; zeta
  obtain ⟨Df, Dw, fo, wo, o1, o2, o3, kf, kw, D, h1, tk1, m, rfl, F, N, ⟨⟨⟨⟨⟨⟨t1, hm1⟩, ⟨t2, hm2⟩⟩, hm3⟩, hm4, hm5⟩, ⟨t6, hm6⟩⟩, ⟨t7, hm7⟩, ⟨t8, hm8⟩⟩, ⟨t9, hm9⟩⟩ := h
  unfold dnews at N
  obtain ⟨ow, fw, how, hfw⟩ : ∃ o fd, (hd.heap_39 w.params).lookup 89 = some o ∧ o.data = .func fd := ⟨_, _, rfl, rfl⟩
  (k_steps; try any_goals (first | exact Str.ofString "" | exact (0 : Addr) | exact Value.none))
  all_goals (try k_data)
  unfold Stop
  rename Fr _ _ _ _ => F2
  rename News _ _ _ _ => N2
  refine ifmt_A (Frag.In.keeps X F2.keep) (Top.keeps T F2.keep) (by omega) fun h3 tk3 t3 hk3 => ?_
  have F3 := fr_kp F2 hk3
  have N3 := news_kp N2 hk3
  clear F2 N2
  dsimp only
  (k_steps; try any_goals (first | exact Str.ofString "" | exact (0 : Addr) | exact Value.none))
  all_goals (try k_data)
  unfold Stop
  rename Fr _ _ _ _ => F2
  rename News _ _ _ _ => N2
  refine imode_A (Frag.In.keeps X F2.keep) (Top.keeps T F2.keep) (by omega) fun h4 tk4 t4 hk4 => ?_
  have F4 := fr_kp F2 hk4
  have N4 := news_kp N2 hk4
  clear F2 N2
  dsimp only
  (k_steps; try any_goals (first | exact Str.ofString "" | exact (0 : Addr) | exact Value.none))
  all_goals (try k_data)
  unfold Stop
  rename Fr _ _ _ _ => F2
  rename News _ _ _ _ => N2
  refine lawworth_A (Frag.In.keeps X F2.keep) (Top.keeps T F2.keep) (by omega) hh fun h6 tk6 t6' hk6 => ?_
  have F6 := fr_kp F2 hk6
  have N6 := news_kp N2 hk6
  clear F2 N2
  dsimp only
  (k_steps; try any_goals (first | exact Str.ofString "" | exact (0 : Addr) | exact Value.none))
  all_goals (try k_data)
  rename Fr _ _ _ _ => F'
  rename News _ _ _ _ => N'
  refine ⟨rfl, Df, Dw, fo, wo, o1, o2, o3, kf, kw, D, _, _, _, rfl, F', N', ⟨⟨⟨⟨⟨⟨_, by with_unfolding_all exact hm1⟩, ⟨_, by with_unfolding_all exact hm2⟩⟩, by with_unfolding_all exact hm3⟩, by with_unfolding_all exact hm4, by with_unfolding_all exact hm5⟩, ⟨_, by with_unfolding_all exact hm6⟩⟩, ⟨_, by with_unfolding_all exact hm7⟩, ⟨_, by with_unfolding_all exact hm8⟩⟩, ?_⟩
  rw [← hnow]
  exact ⟨_, by with_unfolding_all rfl⟩
end
end
/-! RD -/
theorem fresh_RD : True ∧ True := by
  w_top off
  first
    | (walk1; done)
    | exact ⟨trivial, trivial⟩
section
set_option maxRecDepth 100000
set_option maxHeartbeats 4000000
def forIter : Stmt → Expr
  | .For _ i _ _ _ => i
  | _ => .Constant .none 0 ⟨0, 0, 0, 0⟩
section
variable {w : World} {A : Around} {E : Value → Shared → Prop} {s : Shared} {mean : ExcName → Option Value} {mg mb : Str → Option Value}
section
variable {prog : Program} {fx lw : Nat} {few ways : List (Nat × Nat)} {v3 : Option Value} {Df Dw : Addr} {fo wo o1 o2 o3 : Obj} {kf kw : List (Int × Value)} {h₀ h : Heap} {L : Addr} {m : Str → Option Value} {s0 : Shared} {ex rest : List (Addr × Obj)}
theorem DT.off5 (D : DT prog w fx lw few ways v3 Df Dw fo wo o1 o2 o3 kf kw) (N : News h₀ L h (dnews s0 Df Dw fo wo o1 o2 o3 ex)) {a : Addr} {o : Obj} {vs : Array Value} (ha : (a, o) ∈ ex) (hd : o.data = .fields vs) (hr : Off a rest) :
    Off a (dnews s0 Df Dw fo wo o1 o2 o3 rest) := by
  have hm : (a, o) ∈ dnews s0 Df Dw fo wo o1 o2 o3 ex := .tail _ (.tail _ (.tail _ (.tail _ (.tail _ ha))))
  refine off_cons ?_ (off_cons ?_ (off_cons ?_ (off_cons ?_ (off_cons ?_ hr))))
  · obtain ⟨es, ep, _, hd', _⟩ := D.df
    exact ne_data N at0 hm (by show fo.data ≠ o.data; rw [hd, hd']; intro e; cases e)
  · obtain ⟨es, ep, _, hd', _⟩ := D.dw
    exact ne_data N at1 hm (by show wo.data ≠ o.data; rw [hd, hd']; intro e; cases e)
  · exact ne_data N at2 hm (by show o3.data ≠ o.data; rw [D.c3, hd]; intro e; cases e)
  · exact ne_data N at3 hm (by show o2.data ≠ o.data; rw [D.c2, hd]; intro e; cases e)
  · exact ne_data N at4 hm (by show o1.data ≠ o.data; rw [D.c1, hd]; intro e; cases e)
end
theorem off_two {e it : Addr} {news : List (Addr × Obj)} (h1 : Off e news) (h2 : Off it news) : ∀ p ∈ news, p.1 ∉ [e, it] := fun p hp =>
  nin2 (h1 _ (List.mem_map.mpr ⟨p, hp, rfl⟩)) (h2 _ (List.mem_map.mpr ⟨p, hp, rfl⟩))
theorem iter_en {fa R : Addr} {cd : Value} {items : Array Value} {news : List (Addr × Obj)} {h1 : Heap} {m : Str → Option Value} {n tk : Nat} {Q : Value → Shared → Prop} (X : (hd.heap_39 w.params).In s.heap) (T : Top hd.view_39 (looseW hd.view_39 [Str.ofString "_filemode_table"]) mean mg mb s.heap) (F : Fr s.heap s.heap.objs.size h1 m) (N : News s.heap s.heap.objs.size h1 news) (hm3 : m (Str.ofString "ring") = some (.ref R)) (hR : (R, W.listOf items n) ∈ news)
    (hQ : ∀ h', IsEnum h' (h1.objs.size + 1) h1.objs.size 0 .none → h'.IsListIter h1.objs.size R 0 → (∀ b o, h1.get? b = some o → h'.get? b = some o) → Q (.ref (h1.objs.size + 1)) { s with heap := h', toks := tk }) :
    wpAny (model PySem.Challenge.rw_pg0089_02.row.prog w) A (eval (forIter (cutS 2)) (envOfC (Str.ofString "_law_reached") reachScope s.heap.objs.size fa cd)) Q NoE { s with heap := h1, toks := tk } := by
  revert X; k_fill; intro X
  conv in (forIter _) => whnf
  conv in reachScope => whnf; zeta
  (k_steps; try any_goals (first | exact Str.ofString "" | exact (0 : Addr) | exact Value.none))
  refine call_enumerate_list (s := ⟨h1, _, _, _, _⟩) (N.isList hR) fun h' a b c d => hQ h' a b d
def stepsTo (c : Nat) (σ : Bst) (ring : List Nat) (i : Nat) : Bst := (ring.take i).foldl (bstep c) σ
theorem stepsTo_succ {c : Nat} {σ : Bst} {ring : List Nat} {i : Nat} (hi : i < ring.length) : stepsTo c σ ring (i + 1) = bstep c (stepsTo c σ ring i) (ring.getD i 0) := by
  unfold stepsTo
  rw [List.take_add_one, List.getElem?_eq_getElem hi, Option.toList_some, List.foldl_append, List.getD_eq_getElem?_getD, List.getElem?_eq_getElem hi]; rfl
/-- what one step asks of the numbers -/
def StepOk (fx lw st c : Nat) (kp : Int) (ring : List Nat) : Prop := ∀ p ∈ ring,
  Builtin.bitAnd ((fx + lw * p : Nat) : Int) 61440 + Builtin.bitAnd (Builtin.bitAnd ((fx + lw * p : Nat) : Int) 4095) kp + ((worthTo (flipL c (stretch (fx + lw * p) st 5)).toArray st (flipL c (stretch (fx + lw * p) st 5)).toArray.size : Nat) : Int) = ((fx + lw * nextC c p : Nat) : Int)
def lsOf (fx lw st : Nat) (ring : List Nat) : List (List UInt8) := ring.map fun p => stretch (fx + lw * p) st 5
def PlJ (prog : Program) (w : World) (s : Shared) (fx lw st : Nat) (kp : Int) (R K Z : Addr) (fr : Array UInt8) (v3 : Option Value) (c : Nat) (ring : List Nat) (σ : Bst) (oK oR : Obj) (e it : Addr) (ex : List (Addr × Obj)) (i : Nat) (s' : Shared) : Prop :=
  ∃ vs n old oi, IntsAre vs (keysOf fx lw (stepsTo c σ ring i).fresh) ∧ oi.cls = .type "list_iterator" ∧ oi.data = .fields #[.ref R, .int i 0] ∧
    Rst prog w s fx lw (stepsTo c σ ring i).few (stepsTo c σ ring i).ways v3 ((Z, W.listOf vs.toArray n) :: (K, oK) :: (R, oR) :: (e, enumO it i old) :: (it, oi) :: ex) (PC st kp R K Z fr) s'
theorem re5 {d1 d2 d3 d4 d5 z k r e it : Addr × Obj} {ex : List (Addr × Obj)} : ∀ x ∈ d1 :: d2 :: d3 :: d4 :: d5 :: z :: k :: r :: e :: it :: ex, x ∈ e :: it :: d1 :: d2 :: d3 :: d4 :: d5 :: z :: k :: r :: ex := by
  intro x hx
  simp only [List.mem_cons] at hx ⊢
  rcases hx with h | h | h | h | h | h | h | h | h | h | h <;> simp [h]
theorem re6 {d1 d2 d3 d4 d5 z k r e it : Addr × Obj} {ex : List (Addr × Obj)} : ∀ x ∈ d1 :: d2 :: d3 :: d4 :: d5 :: z :: k :: r :: ex, x ∈ d1 :: d2 :: d3 :: d4 :: d5 :: z :: k :: r :: e :: it :: ex := by
  intro x hx
  simp only [List.mem_cons] at hx ⊢
  rcases hx with h | h | h | h | h | h | h | h | h <;> simp [h]
theorem noDict_cons {p : Addr × Obj} {ex : List (Addr × Obj)} (h : ∀ es ep, p.2.data ≠ .dict es ep) (hx : NoDict ex) : NoDict (p :: ex) := by
  intro q hq
  rcases List.mem_cons.mp hq with rfl | hq
  · exact h
  · exact hx q hq
theorem c2 {fa R K Z : Addr} {cd : Value} {fx lw st c nK nR n : Nat} {kp : Int} {fr : Array UInt8} {tc : Tok} {σ : Bst} {ring : List Nat} {ps : List (Array UInt8 × Tok)} {vR vs : List Value} {ex : List (Addr × Obj)} {s₁ : Shared} (X : (hd.heap_39 w.params).In s.heap) (T : Top hd.view_39 (looseW hd.view_39 [Str.ofString "_filemode_table"]) mean mg mb s.heap) (hh : A.handled = none) (hdp : A.depth + 9 < recursionLimit) (hlw : 0 < lw)
    (hc : c ≤ 5) (hrl : ring.length ≤ 10) (hR : IntsAre vR (keysOf fx lw ring)) (hps : ps.map (·.1) = (lsOf fx lw st ring).map List.toArray) (hok : StepOk fx lw st c kp ring)
    (hwf : WF ring σ) (hl : lens σ 1000 1000) (hex : NoDict ex) (hKZ : @Ne Nat K Z) (hRZ : @Ne Nat R Z) (offZ : Off Z ex) (hi : IntsAre vs (keysOf fx lw σ.fresh)) (hfr : fr = ((lsOf fx lw st ring).map fun l => (l.take c).reverse).flatten.toArray)
    (h : Rst PySem.Challenge.rw_pg0089_02.row.prog w s fx lw σ.few σ.ways (some (.int (c : Int) tc)) ((Z, W.listOf vs.toArray n) :: (K, W.listOf (bvals ps).toArray nK) :: (R, W.listOf vR.toArray nR) :: ex) (PC st kp R K Z fr) s₁) :
    wpAny (model PySem.Challenge.rw_pg0089_02.row.prog w) A (exec (cutS 2) (envOfC (Str.ofString "_law_reached") reachScope s.heap.objs.size fa cd))
      (nx fun s' => ∃ vs' n', IntsAre vs' (keysOf fx lw (ring.foldl (bstep c) σ).fresh) ∧ Rst PySem.Challenge.rw_pg0089_02.row.prog w s fx lw (ring.foldl (bstep c) σ).few (ring.foldl (bstep c) σ).ways (some (.int (c : Int) tc))
        ((Z, W.listOf vs'.toArray n') :: (K, W.listOf (bvals ps).toArray nK) :: (R, W.listOf vR.toArray nR) :: ex) (PC st kp R K Z fr) s') NoE s₁ := by
  show wpAny _ _ (exec (Stmt.For (forTarget (cutS 2)) (forIter (cutS 2)) [plcS 0, plcS 1, plcS 2, plcS 3] [] _) _) _ _ _
  obtain ⟨Df, Dw, fo, wo, o1, o2, o3, kf, kw, D, h1, tk1, m, rfl, F, N, ⟨⟨⟨⟨⟨t1, hm1⟩, ⟨t2, hm2⟩⟩, hm3⟩, hm4, hm5⟩, ⟨t6, hm6⟩⟩⟩ := h
  have hrl2 := ints_length hR
  rw [keysOf, List.length_map] at hrl2
  refine forA (iter_en X T F N hm3 at7 fun h4 he4 hi4 hk4 => ?_)
  have F4 := fr_kp F hk4
  have N4 := news_kp N hk4
  have hfe := fresh_none F (Nat.le_succ h1.objs.size)
  have hfi := fresh_none F (Nat.le_refl h1.objs.size)
  have hL3 := fr_lt F
  have hlt := news_lt N
  have hltD : ∀ p ∈ (Z, W.listOf vs.toArray n) :: (K, W.listOf (bvals ps).toArray nK) :: (R, W.listOf vR.toArray nR) :: ex, @LT.lt Nat _ p.1 h1.objs.size := fun p hp => hlt p (.tail _ (.tail _ (.tail _ (.tail _ (.tail _ hp)))))
  have hZ1 := hltD _ at0
  have hK1 := hltD _ at1
  have hR1 := hltD _ at2
  have hex1 : ∀ p ∈ ex, @LT.lt Nat _ p.1 h1.objs.size := fun p hp => hltD p (.tail _ (.tail _ (.tail _ hp)))
  obtain ⟨o4, ho4, hc4, hd4⟩ := hi4
  refine wpAny_pyIter_enum he4 ?_
  generalize hE : h1.objs.size + 1 = e at *
  generalize hI : h1.objs.size = it at *
  have hfe' : s.heap.get? e = none := by rw [← hE]; exact hfe
  have hRR : @Ne Nat R it := by omega
  have hofe : Off e ((Z, W.listOf vs.toArray n) :: (K, W.listOf (bvals ps).toArray nK) :: (R, W.listOf vR.toArray nR) :: ex) := by
    intro b hb
    obtain ⟨p, hp, rfl⟩ := List.mem_map.mp hb
    have := hltD p hp
    omega
  have hofi : Off it ((Z, W.listOf vs.toArray n) :: (K, W.listOf (bvals ps).toArray nK) :: (R, W.listOf vR.toArray nR) :: ex) := by
    intro b hb
    obtain ⟨p, hp, rfl⟩ := List.mem_map.mp hb
    have := hltD p hp
    omega
  have hLe : @Ne Nat e s.heap.objs.size := by omega
  have hLi : @Ne Nat it s.heap.objs.size := by omega
  have hei : @Ne Nat e it := by omega
  have heR : @Ne Nat e R := by omega
  have hZe : @Ne Nat Z e := by omega
  have hZi : @Ne Nat Z it := by omega
  have N4' := news_cons he4 hLe hfe' (news_cons ho4 hLi hfi N4)
  clear F N hltD hex1 hlt hZ1 hK1 hR1
  conv in (forTarget _) => whnf
  refine forA_inv vR.toArray.size (PlJ PySem.Challenge.rw_pg0089_02.row.prog w s fx lw st kp R K Z fr (some (.int (c : Int) tc)) c ring σ (W.listOf (bvals ps).toArray nK) (W.listOf vR.toArray nR) e it ex) ?_ ?_ _ 0 _ rfl (Nat.zero_le _) ?_
  · rintro i s' hilt ⟨vs5, n5, old, oi, hi5, hc5, hd5, Df, Dw, fo, wo, o1, o2, o3, kf, kw, D5, h, tk, m', rfl, F5, N5, ⟨⟨⟨⟨⟨t1, hm1⟩, ⟨t2, hm2⟩⟩, hm3⟩, hm4, hm5⟩, ⟨t6, hm6⟩⟩⟩
    have hir : i < ring.length := by rw [List.size_toArray] at hilt; omega
    have hme : (e, enumO it i old) ∈ (Z, W.listOf vs5.toArray n5) :: (K, W.listOf (bvals ps).toArray nK) :: (R, W.listOf vR.toArray nR) :: (e, enumO it i old) :: (it, oi) :: ex := at3
    have hmi : (it, oi) ∈ (Z, W.listOf vs5.toArray n5) :: (K, W.listOf (bvals ps).toArray nK) :: (R, W.listOf vR.toArray nR) :: (e, enumO it i old) :: (it, oi) :: ex := at4
    refine enum_turn (fp := [it, R]) hh (Draws.list (by exact hh) it R hRR vR.toArray) (N5.get at8) ⟨⟨oi, N5.get at9, hc5, hd5⟩, N5.isList at7⟩ hilt hei (nin2 hei heR) fun x tx h6 tk6 hx he6 hst6 hk6 => ?_
    obtain ⟨old', he6⟩ := he6
    obtain ⟨⟨o6, ho6, hc6, hd6⟩, _⟩ := hst6
    have F6 := fr_but F5 hk6 (nin2 (Ne.symm hLe) (Ne.symm hLi)) (all2 hfe' hfi)
    have N6 := news_sub (news_cons he6 hLe hfe' (news_cons ho6 hLi hfi (news_but (news_sub N5 re6) hk6 (off_two (D5.off5 (rest := (Z, W.listOf vs5.toArray n5) :: (K, W.listOf (bvals ps).toArray nK) :: (R, W.listOf vR.toArray nR) :: ex) N5 hme rfl hofe) (D5.off5 (rest := (Z, W.listOf vs5.toArray n5) :: (K, W.listOf (bvals ps).toArray nK) :: (R, W.listOf vR.toArray nR) :: ex) N5 hmi hd5 hofi))))) re5
    clear F5 N5 N4 N4' F4
    have hrg : ring.getD i 0 ∈ ring := by rw [List.getD_eq_getElem?_getD, List.getElem?_eq_getElem hir]; exact List.getElem_mem hir
    have hx2 : (keysOf fx lw ring)[i]? = some (keyN fx lw (ring.getD i 0)) := by
      rw [keysOf, List.getElem?_map, List.getD_eq_getElem?_getD, List.getElem?_eq_getElem hir]; rfl
    obtain ⟨t, hv⟩ := hR.get i _ hx2
    have hxe : x = .int (keyN fx lw (ring.getD i 0)) t := by
      rw [List.getElem?_toArray, hv] at hx
      exact (Option.some.inj hx).symm
    subst hxe
    have hwi : WF ring (stepsTo c σ ring i) := WF.steps (by omega) (ring.take i) (fun q hq => List.mem_of_mem_take hq) hwf
    have hli : lens (stepsTo c σ ring i) 2000 2000 := by
      have := len_steps (c := c) (ring.take i) hl
      have hti : (ring.take i).length ≤ 10 := Nat.le_trans (List.length_take_le _ _) (by omega)
      exact ⟨Nat.le_trans this.1 (by omega), Nat.le_trans this.2.1 (by omega), Nat.le_trans this.2.2 (by omega)⟩
    have hpr := (hwi.hr _ hrg).2
    have hq32 := (flip_val (st := 0) (c := c) (by omega) (by omega) hpr).2
    obtain ⟨hw2, hq2⟩ := hwi.step2 (p := ring.getD i 0) hq32
    have hl2 := len2 (p := ring.getD i 0) (q := nextC c (ring.getD i 0)) hli
    have hexL : NoDict ((K, W.listOf (bvals ps).toArray nK) :: (R, W.listOf vR.toArray nR) :: (e, enumO it ((i : Int) + 1) old') :: (it, o6) :: ex) :=
      noDict_cons (by intro es ep z; cases z) (noDict_cons (by intro es ep z; cases z) (noDict_cons (by intro es ep z; cases z) (noDict_cons (by intro es ep z; rw [show o6.data = _ from hd6] at z; cases z) hex)))
    have hoffZ : Off Z ((K, W.listOf (bvals ps).toArray nK) :: (R, W.listOf vR.toArray nR) :: (e, enumO it ((i : Int) + 1) old') :: (it, o6) :: ex) :=
      off_cons hKZ (off_cons hRZ (off_cons (Ne.symm hZe) (off_cons (Ne.symm hZi) offZ)))
    refine store_L2 (s := ⟨h6, _, _, _, _⟩) F6 N6 rfl (fun h7 F7 N7 => ?_) rfl rfl
    clear F6 N6
    refine store_L2 (s := ⟨h7, _, _, _, _⟩) F7 N7 rfl (fun h8 F8 N8 => ?_) rfl rfl
    clear F7 N7
    refine nextA_mid _ (e0 (ls := lsOf fx lw st ring) (i := i) (now := keyN fx lw (ring.getD i 0)) X T hh at1 hps (fun l hl => by obtain ⟨p, _, rfl⟩ := List.mem_map.mp hl; exact stretch_length ..) hc (by rw [lsOf, List.length_map]; omega) (by rw [lsOf, List.length_map]; exact hir) hfr
      ⟨Df, Dw, fo, wo, o1, o2, o3, kf, kw, D5, h8, _, _, rfl, F8, N8, ⟨⟨⟨⟨⟨⟨_, by with_unfolding_all exact hm1⟩, ⟨_, by with_unfolding_all exact hm2⟩⟩, by with_unfolding_all exact hm3⟩, by with_unfolding_all exact hm4, by with_unfolding_all exact hm5⟩, ⟨_, by with_unfolding_all exact hm6⟩⟩, ⟨_, by with_unfolding_all rfl⟩, ⟨_, by with_unfolding_all rfl⟩⟩⟩) fun s2 L2 => ?_
    rw [show (lsOf fx lw st ring).getD i [] = stretch (fx + lw * ring.getD i 0) st 5 from getD_map (e := 0) _ hir] at L2
    refine nextA_mid _ (e1 X T hh hdp (hok _ hrg) L2) fun s3 L3 => ?_
    refine nextA_mid _ (e2 (p := ring.getD i 0) (q := nextC c (ring.getD i 0)) X T hh hlw hwi hrg ⟨Nat.le_trans hli.1 (by decide), Nat.le_trans hli.2.1 (by decide), Nat.le_trans hli.2.2 (by decide)⟩ hexL hoffZ hi5 L3) fun s4 L4 => ?_
    obtain ⟨vs6, n6, hi6, L4⟩ := L4
    refine nextA_mid _ (e3 X T hh hlw hw2 hrg hq2 ⟨Nat.le_trans hl2.1 (by decide), Nat.le_trans hl2.2.1 (by decide), Nat.le_trans hl2.2.2 (by decide)⟩ (noDict_cons (by intro es ep z; cases z) hexL) L4) fun s5 L5 => ?_
    refine wpAny_execs_nil ?_
    dsimp only
    have es : stepsTo c σ ring (i + 1) = bst3 (bst2 (stepsTo c σ ring i) (ring.getD i 0) (nextC c (ring.getD i 0))) (ring.getD i 0) (nextC c (ring.getD i 0)) := stepsTo_succ hir
    have ef : (bst3 (bst2 (stepsTo c σ ring i) (ring.getD i 0) (nextC c (ring.getD i 0))) (ring.getD i 0) (nextC c (ring.getD i 0))).fresh = (bst2 (stepsTo c σ ring i) (ring.getD i 0) (nextC c (ring.getD i 0))).fresh := by
      unfold bst3; split <;> rfl
    unfold PlJ
    rw [es]
    refine ⟨vs6, n6, old', o6, by rw [ef]; exact hi6, hc6, hd6, ?_⟩
    obtain ⟨Df', Dw', fo', wo', o1', o2', o3', kf', kw', D', Lx⟩ := L5
    exact ⟨Df', Dw', fo', wo', o1', o2', o3', kf', kw', D', Lx.mono fun m hm => hm.1.1⟩
  · rintro s' ⟨vs5, n5, old, oi, hi5, hc5, hd5, Df, Dw, fo, wo, o1, o2, o3, kf, kw, D5, h, tk, m', rfl, F5, N5, hm⟩
    have hme : (e, enumO it (vR.toArray.size : Int) old) ∈ (Z, W.listOf vs5.toArray n5) :: (K, W.listOf (bvals ps).toArray nK) :: (R, W.listOf vR.toArray nR) :: (e, enumO it (vR.toArray.size : Int) old) :: (it, oi) :: ex := at3
    have hmi : (it, oi) ∈ (Z, W.listOf vs5.toArray n5) :: (K, W.listOf (bvals ps).toArray nK) :: (R, W.listOf vR.toArray nR) :: (e, enumO it (vR.toArray.size : Int) old) :: (it, oi) :: ex := at4
    refine enum_done (fp := [it, R]) (Draws.list (by exact hh) it R hRR vR.toArray) (N5.get at8) ⟨⟨oi, N5.get at9, hc5, hd5⟩, N5.isList at7⟩ fun h6 hk6 => ?_
    have F6 := fr_but F5 hk6 (nin2 (Ne.symm hLe) (Ne.symm hLi)) (all2 hfe' hfi)
    have N6 := news_but (news_sub N5 re6) hk6 (off_two (D5.off5 (rest := (Z, W.listOf vs5.toArray n5) :: (K, W.listOf (bvals ps).toArray nK) :: (R, W.listOf vR.toArray nR) :: ex) N5 hme rfl hofe) (D5.off5 (rest := (Z, W.listOf vs5.toArray n5) :: (K, W.listOf (bvals ps).toArray nK) :: (R, W.listOf vR.toArray nR) :: ex) N5 hmi hd5 hofi))
    refine wpAny_execs_nil ?_
    have es : stepsTo c σ ring vR.toArray.size = ring.foldl (bstep c) σ := by
      unfold stepsTo; rw [List.take_of_length_le (by rw [List.size_toArray]; omega)]
    rw [es] at D5 hi5
    exact ⟨rfl, vs5, n5, hi5, Df, Dw, fo, wo, o1, o2, o3, kf, kw, D5, h6, _, _, rfl, F6, N6, hm⟩
  · exact ⟨vs, n, _, o4, hi, hc4, hd4, Df, Dw, fo, wo, o1, o2, o3, kf, kw, D, h4, _, _, rfl, F4, news_sub N4' re5, ⟨⟨⟨⟨⟨t1, hm1⟩, ⟨t2, hm2⟩⟩, hm3⟩, hm4, hm5⟩, ⟨t6, hm6⟩⟩⟩
end
end
/-! RE -/
theorem fresh_RE : True ∧ True := by
  w_top off
  first
    | (walk1; done)
    | exact ⟨trivial, trivial⟩
section
set_option maxRecDepth 100000
set_option maxHeartbeats 4000000
section
variable {w : World} {A : Around} {E : Value → Shared → Prop} {s : Shared} {mean : ExcName → Option Value} {mg mb : Str → Option Value}
local macro_rules | `(tactic| walk_at "call ref") => `(tactic| (k_here; (with_reducible show wpAny _ _ (call (Value.ref _) _) _ _ _); (refine stop_call ?_)))
local macro_rules | `(tactic| walk_at "call builtin:bytes.join") => `(tactic| (k_here; (refine stop_call ?_)))
local macro_rules | `(tactic| walk_at "eval ListComp") => `(tactic| (k_here; (refine stop_call ?_)))
local macro_rules | `(tactic| walk_at "subscriptTail") => `(tactic| (k_here; (refine stop_call ?_)))
local macro_rules | `(tactic| walk_at "eval Name") => `(tactic| (k_here; (with_reducible show wpAny _ _ (eval (Expr.Name _ _) (envOfC _ _ _ _ _)) _ _ _); k_dflt (refine name_cell (by rfl) (by rfl) (by rfl) (by decide) (by k_asm) (by k_mem) (by k_asm) ?_)))
theorem bvals_of : ∀ (ys : List Value) (bs : List (Array UInt8)), ys.length = bs.length → (∀ (i : Nat) y, ys[i]? = some y → ∃ t, y = .bytes (bs.getD i #[]) t) → ∃ ps, ys = bvals ps ∧ ps.map (·.1) = bs
  | [], [], _, _ => ⟨[], rfl, rfl⟩
  | y :: ys, b :: bs, hl, h => by
    obtain ⟨t, ht⟩ := h 0 y rfl
    obtain ⟨ps, e1, e2⟩ := bvals_of ys bs (by simpa using hl) (fun i y hy => h (i + 1) y hy)
    exact ⟨(b, t) :: ps, by rw [ht, e1]; rfl, by rw [List.map_cons, e2]⟩
  | [], _ :: _, hl, _ => by cases hl
  | _ :: _, [], hl, _ => by cases hl
theorem c0 {fa R K Z : Addr} {cd : Value} {fx lw st c nK : Nat} {kp : Int} {tc : Tok} {few ways : List (Nat × Nat)} {ps : List (Array UInt8 × Tok)} {ls : List (List UInt8)} {ex : List (Addr × Obj)} {s₁ : Shared} (X : (hd.heap_39 w.params).In s.heap) (T : Top hd.view_39 (looseW hd.view_39 [Str.ofString "_filemode_table"]) mean mg mb s.heap) (hh : A.handled = none) (hg : A.guards = some []) (hdp : A.depth + 9 < recursionLimit)
    (hK : (K, W.listOf (bvals ps).toArray nK) ∈ ex) (hps : ps.map (·.1) = ls.map List.toArray) (hls : ∀ l ∈ ls, l.length = 5) (hc : c ≤ 5) (hc2 : 2 ≤ c) (hn : ls.length ≤ 100)
    (h : Rst PySem.Challenge.rw_pg0089_02.row.prog w s fx lw few ways (some (.int (c : Int) tc)) ex (PI st kp R K Z) s₁) :
    wpC (model PySem.Challenge.rw_pg0089_02.row.prog w) A (exec (cutS 0) (envOfC (Str.ofString "_law_reached") reachScope s.heap.objs.size fa cd))
      (nx fun s' => Rst PySem.Challenge.rw_pg0089_02.row.prog w s fx lw few ways (some (.int (c : Int) tc)) ex (PC st kp R K Z (ls.map fun l => (l.take c).reverse).flatten.toArray) s') NoE s₁ := by
  revert X; k_fill; intro X
  conv in (cutS _) => whnf
  conv in reachScope => whnf; zeta
  obtain ⟨Df, Dw, fo, wo, o1, o2, o3, kf, kw, D, h1, tk1, m, rfl, F, N, ⟨⟨⟨⟨t1, hm1⟩, ⟨t2, hm2⟩⟩, hm3⟩, hm4, hm5⟩⟩ := h
  have hc3 := D.c3
  have hpl : ps.length = ls.length := by have := congrArg List.length hps; simpa using this
  unfold dnews at N
  obtain ⟨ob, fd, hob, hfd⟩ : ∃ o fd, (hd.heap_39 w.params).lookup 75 = some o ∧ o.data = .func fd := ⟨_, _, rfl, rfl⟩
  refine wpC_Assign_Name (Call_C ?_)
  (k_steps; try any_goals (first | exact Str.ofString "" | exact (0 : Addr) | exact Value.none))
  refine fnC2 (o := ob) hfd (by rfl) (wpC_of_any ?_)
  (k_steps; try any_goals (first | exact Str.ofString "" | exact (0 : Addr) | exact Value.none))
  all_goals (try k_data)
  refine method_bj ?_
  dsimp only
  (k_steps; try any_goals (first | exact Str.ofString "" | exact (0 : Addr) | exact Value.none))
  all_goals (try k_data)
  unfold Stop
  refine LC (h₀ := s.heap) (L := s.heap.objs.size) (m := m) (by with_unfolding_all rfl) (by decide) (by rfl) (by decide) (by rfl) ?_
  (k_steps; try any_goals (first | exact Str.ofString "" | exact (0 : Addr) | exact Value.none))
  all_goals (try k_data)
  refine src_list (s := ⟨_, _, _, _, _⟩) (items := (bvals ps).toArray) (fun i y => ∃ t, y = .bytes ((ls.getD i []).take c).toArray t) hh F N (.inl ⟨nK, .tail _ (.tail _ (.tail _ (.tail _ (.tail _ hK))))⟩) ?_ ?_ ?_
  · simp only [bvals, List.size_toArray, List.length_map]
    rw [PySem.sizeLine_eq]; omega
  · intro I oI g i v C oC D' mC ys h tk hi hv F3 N3 hC hx
    have hi' : i < ps.length := by simpa [bvals] using hi
    rcases hb : ps[i] with ⟨b, t⟩
    have hv2 : ps[i]? = some (b, t) := by rw [List.getElem?_eq_getElem hi', hb]
    have hve : v = .bytes b t := by
      simp only [bvals, List.getElem?_toArray, List.getElem?_map, hv2] at hv
      exact (Option.some.inj hv).symm
    have eb : b = (ls.getD i []).toArray := by
      have h3 : (ps.map (·.1))[i]? = some b := by rw [List.getElem?_map, hv2]; rfl
      rw [hps, List.getElem?_map, List.getElem?_eq_getElem (by omega)] at h3
      rw [List.getD_eq_getElem?_getD, List.getElem?_eq_getElem (by omega)]
      exact (Option.some.inj h3).symm
    subst hve eb
    have hl5 : (ls.getD i []).length = 5 := by
      rw [List.getD_eq_getElem?_getD, List.getElem?_eq_getElem (by omega)]; exact hls _ (List.getElem_mem _)
    clear F N
    try dsimp only
    (k_steps; try any_goals (first | exact Str.ofString "" | exact (0 : Addr) | exact Value.none))
    all_goals (try k_data)
    unfold Stop
    refine cut_slice (s := ⟨h, _, _, _, _⟩) (b := ls.getD i []) (p := 0) (q := c) .none (.int _ _) (by omega) rfl (clip_in (by omega)) F3 N3 fun h7 t7 k7 F7 N7 => ?_
    rw [List.drop_zero, Nat.sub_zero]
    exact ⟨_, _, rfl, F7, N7, _, rfl⟩
  · intro D' h tk ys F3 N3 off hlen hG
    have hlen' : ys.length = ls.length := by rw [hlen]; simp only [bvals, List.size_toArray, List.length_map]; exact hpl
    obtain ⟨ps', rfl, hps'⟩ := bvals_of ys ((ls.map fun l => l.take c).map List.toArray) (by rw [List.length_map, List.length_map]; exact hlen') fun i y hy => by
      obtain ⟨t, rfl⟩ := hG i y hy
      have hil : i < ls.length := by have := (List.getElem?_eq_some_iff.mp hy).1; omega
      refine ⟨t, ?_⟩
      rw [List.map_map, getD_map (e := []) _ hil]; rfl
    have hxs : ∀ x ∈ ls.map (fun l => l.take c), x.length = c := by
      intro x hx
      obtain ⟨l, hl, rfl⟩ := List.mem_map.mp hx
      rw [List.length_take, hls l hl]; omega
    have hfl : (ls.map fun l => l.take c).flatten.length = ls.length * c := by rw [flat_len hxs, List.length_map]
    have hfl2 : ls.length * c ≤ 100 * 5 := Nat.mul_le_mul hn hc
    clear F N
    try dsimp only
    (k_steps; try any_goals (first | exact Str.ofString "" | exact (0 : Addr) | exact Value.none))
    all_goals (try k_data)
    unfold Stop
    refine call_join (s := ⟨_, _, _, _, _⟩) (ps := ps') (N3.isList at0) (by rw [hps', sizes_flat]; omega) (by rw [hps', joined_flat, List.size_toArray]; omega) fun t5 k5 => ?_
    rw [hps', joined_flat]
    replace N3 := news_tl N3
    refine wpC_of_any ?_
    dsimp only
    (k_steps; try any_goals (first | exact Str.ofString "" | exact (0 : Addr) | exact Value.none))
    all_goals (try k_data)
    · exact F3.keep _ _ (X _ _ hob)
    refine byteswap_C (s := ⟨_, _, _, _, _⟩) (k := ls.length) (Frag.In.keeps X F3.keep) (Top.keeps T F3.keep) (by omega) hh hg (by omega) (by rw [List.size_toArray, hfl]) (by rw [List.size_toArray]; omega) (by omega) fun h6 tk6 t6 hk6 => ?_
    have F6 := fr_kp F3 hk6
    have N6 := news_kp N3 hk6
    clear F3 N3
    rw [swp_flat (by omega) _ hxs, List.map_map]
    dsimp only
    (k_steps; try any_goals (first | exact Str.ofString "" | exact (0 : Addr) | exact Value.none))
    all_goals (try k_data)
    rename Fr _ _ _ _ => F'
    rename News _ _ _ _ => N'
    refine ⟨rfl, Df, Dw, fo, wo, o1, o2, o3, kf, kw, D, _, _, _, rfl, F', N', ⟨⟨⟨⟨⟨_, by with_unfolding_all exact hm1⟩, ⟨_, by with_unfolding_all exact hm2⟩⟩, by with_unfolding_all exact hm3⟩, by with_unfolding_all exact hm4, by with_unfolding_all exact hm5⟩, ⟨_, by with_unfolding_all rfl⟩⟩⟩
end
end
/-! RF -/
theorem fresh_RF : True ∧ True := by
  w_top off
  first
    | (walk1; done)
    | exact ⟨trivial, trivial⟩
section
set_option maxRecDepth 100000
set_option maxHeartbeats 4000000
section
variable {w : World} {A : Around} {E : Value → Shared → Prop} {s : Shared} {mean : ExcName → Option Value} {mg mb : Str → Option Value}
theorem c1 {fa R K Z : Addr} {cd : Value} {fx lw st : Nat} {kp : Int} {fr : Array UInt8} {v3 : Option Value} {few ways : List (Nat × Nat)} {ex : List (Addr × Obj)} {s₁ : Shared} (X : (hd.heap_39 w.params).In s.heap) (T : Top hd.view_39 (looseW hd.view_39 [Str.ofString "_filemode_table"]) mean mg mb s.heap) (hh : A.handled = none)
    (h : Rst PySem.Challenge.rw_pg0089_02.row.prog w s fx lw few ways v3 ex (PC st kp R K Z fr) s₁) :
    wpAny (model PySem.Challenge.rw_pg0089_02.row.prog w) A (exec (cutS 1) (envOfC (Str.ofString "_law_reached") reachScope s.heap.objs.size fa cd))
      (nx (Rst PySem.Challenge.rw_pg0089_02.row.prog w s fx lw few ways v3 ex (PC st kp R K Z fr))) NoE s₁ := by
  revert X; k_fill; intro X
  conv in (cutS _) => whnf
  conv in reachScope => whnf; zeta
  obtain ⟨Df, Dw, fo, wo, o1, o2, o3, kf, kw, D, h1, tk1, m, rfl, F, N, ⟨⟨⟨⟨t1, hm1⟩, ⟨t2, hm2⟩⟩, hm3⟩, hm4, hm5⟩, ⟨t6, hm6⟩⟩ := h
  unfold dnews at N
  (k_steps; try any_goals (first | exact Str.ofString "" | exact (0 : Addr) | exact Value.none))
  all_goals (try k_data)
  exact ⟨rfl, Df, Dw, fo, wo, o1, o2, o3, kf, kw, D, _, _, _, rfl, F, N, ⟨⟨⟨⟨t1, hm1⟩, ⟨t2, hm2⟩⟩, hm3⟩, hm4, hm5⟩, ⟨t6, hm6⟩⟩
theorem store_cell {prog : Program} {h₀ : Heap} {L a c : Addr} {cn x : Str} {cs : Scope} {ccd v : Value} {m : Str → Option Value} {news : List (Addr × Obj)} {g : Obj → List (Addr × Obj)} {o : Obj} {v₀ : Option Value} {Q : Unit → Shared → Prop} (F : Fr h₀ L s.heap m) (N : News h₀ L s.heap news)
    (hx : (envOfC cn cs L a ccd).kindOf x = some .cell) (hc : (cellsFrom (L + 1) cs.names []).lookup x = some c) (hk : cs.kind = .function) (U : UpdF c o news g) (hd : o.data = .cell v₀)
    (h : ∀ h' o', Fr h₀ L h' m → News h₀ L h' (g o') → o'.data = .cell (some v) → Q () { s with heap := h' }) : wpAny (model prog w) A (storeName (envOfC cn cs L a ccd) x v) Q E s :=
  storeX_C (cl := cellsFrom (L + 1) cs.names []) F N hc U hd h hk hx
section
variable {prog : Program} {fx lw : Nat} {few ways : List (Nat × Nat)} {v3 : Option Value} {Df Dw : Addr} {fo wo o1 o2 o3 : Obj} {kf kw : List (Int × Value)} {h₀ h : Heap} {L : Addr} {m : Str → Option Value} {s0 : Shared} {ex : List (Addr × Obj)}
def NoCell (ex : List (Addr × Obj)) : Prop := ∀ p ∈ ex, ∀ v, p.2.data ≠ .cell v
theorem noCell_cons {p : Addr × Obj} (h : ∀ v, p.2.data ≠ .cell v) (hx : NoCell ex) : NoCell (p :: ex) := by
  intro q hq
  rcases List.mem_cons.mp hq with rfl | hq
  · exact h
  · exact hx q hq
theorem DT.updC (D : DT prog w fx lw few ways v3 Df Dw fo wo o1 o2 o3 kf kw) (N : News h₀ L h (dnews s0 Df Dw fo wo o1 o2 o3 ex)) (hex : NoCell ex) :
    UpdF (s0.heap.objs.size + 1 + 1 + 1) o3 (dnews s0 Df Dw fo wo o1 o2 o3 ex) (fun o' => dnews s0 Df Dw fo wo o1 o2 o' ex) := by
  have hm : (s0.heap.objs.size + 1 + 1 + 1, o3) ∈ dnews s0 Df Dw fo wo o1 o2 o3 ex := at2
  refine .tail ?_ (.tail ?_ (.head fun p hp => ?_))
  · obtain ⟨es, ep, _, hd, _⟩ := D.df
    exact ne_data N at0 hm (by show fo.data ≠ o3.data; rw [hd, D.c3]; intro e; cases e)
  · obtain ⟨es, ep, _, hd, _⟩ := D.dw
    exact ne_data N at1 hm (by show wo.data ≠ o3.data; rw [hd, D.c3]; intro e; cases e)
  rcases List.mem_cons.mp hp with rfl | hp2
  · exact Nat.ne_of_lt (Nat.lt_succ_self _)
  rcases List.mem_cons.mp hp2 with rfl | hp2
  · exact Nat.ne_of_lt (Nat.lt_succ_of_lt (Nat.lt_succ_self _))
  · exact ne_data N (.tail _ (.tail _ (.tail _ hp))) hm (by show p.2.data ≠ o3.data; rw [D.c3]; exact hex p hp2 _)
end
theorem iter_cut {fa : Addr} {cd : Value} {news : List (Addr × Obj)} {h1 : Heap} {m : Str → Option Value} {tk : Nat} {Q : Value → Shared → Prop} (X : (hd.heap_39 w.params).In s.heap) (T : Top hd.view_39 (looseW hd.view_39 [Str.ofString "_filemode_table"]) mean mg mb s.heap) (hh : A.handled = none) (F : Fr s.heap s.heap.objs.size h1 m) (N : News s.heap s.heap.objs.size h1 news)
    (hQ : ∀ I h' tk', Fr s.heap s.heap.objs.size h' m → News s.heap s.heap.objs.size h' ((I, rangeO 2 4 1) :: news) → Off I news → Q (.ref I) { s with heap := h', toks := tk' }) :
    wpAny (model PySem.Challenge.rw_pg0089_02.row.prog w) A (eval (forIter (rchB 2)) (envOfC (Str.ofString "_law_reached") reachScope s.heap.objs.size fa cd)) (fun x s₁ => wpAny (model PySem.Challenge.rw_pg0089_02.row.prog w) A (pyIter x) Q NoE s₁) NoE { s with heap := h1, toks := tk } := by
  revert X; k_fill; intro X
  conv in (forIter _) => whnf
  conv in reachScope => whnf; zeta
  (k_steps; try any_goals (first | exact Str.ofString "" | exact (0 : Addr) | exact Value.none))
  rename Fr _ _ _ _ => F3
  rename News _ _ _ _ => N3
  rename IsRange _ _ _ _ _ _ _ _ => hr
  refine range_enter (s := ⟨_, _, _, _, _⟩) hr (by decide) 4 (by decide) F3 N3 fun I h4 F4 N4 off => ?_
  exact hQ I h4 _ F4 N4 off
def cutsTo (ring : List Nat) (σ : Bst) (i : Nat) : Bst := ([2, 3, 4, 5].take i).foldl (bcut ring) σ
theorem cutsTo_succ {ring : List Nat} {σ : Bst} {i : Nat} (hi : i < 4) : cutsTo ring σ (i + 1) = bcut ring (cutsTo ring σ i) (2 + i) := by
  match i, hi with
  | 0, _ => rfl
  | 1, _ => rfl
  | 2, _ => rfl
  | 3, _ => rfl
def CutJ (prog : Program) (w : World) (s : Shared) (fx lw st : Nat) (kp : Int) (R K Z : Addr) (ring : List Nat) (σ : Bst) (oK oR : Obj) (I : Addr) (i : Nat) (s' : Shared) : Prop :=
  ∃ vs n v3, IntsAre vs (keysOf fx lw (cutsTo ring σ i).fresh) ∧
    Rst prog w s fx lw (cutsTo ring σ i).few (cutsTo ring σ i).ways v3 [(Z, W.listOf vs.toArray n), (K, oK), (R, oR), (I, rangeO (2 + (i : Int)) (4 - (i : Int)) 1)] (PI st kp R K Z) s'
theorem re7 {d1 d2 d3 d4 d5 z k r i : Addr × Obj} : ∀ x ∈ [i, d1, d2, d3, d4, d5, z, k, r], x ∈ [d1, d2, d3, d4, d5, z, k, r, i] := by
  intro x hx
  simp only [List.mem_cons, List.not_mem_nil, or_false] at hx ⊢
  rcases hx with h | h | h | h | h | h | h | h | h <;> simp [h]
theorem re8 {d1 d2 d3 d4 d5 z k r i : Addr × Obj} : ∀ x ∈ [d1, d2, d3, d4, d5, z, k, r, i], x ∈ [i, d1, d2, d3, d4, d5, z, k, r] := by
  intro x hx
  simp only [List.mem_cons, List.not_mem_nil, or_false] at hx ⊢
  rcases hx with h | h | h | h | h | h | h | h | h <;> simp [h]
theorem cuts {fa R K Z : Addr} {cd : Value} {fx lw st nK nR n : Nat} {kp : Int} {v3 : Option Value} {σ : Bst} {ring : List Nat} {ps : List (Array UInt8 × Tok)} {vR vs : List Value} {s₁ : Shared} (X : (hd.heap_39 w.params).In s.heap) (T : Top hd.view_39 (looseW hd.view_39 [Str.ofString "_filemode_table"]) mean mg mb s.heap) (hh : A.handled = none) (hg : A.guards = some []) (hdp : A.depth + 9 < recursionLimit) (hlw : 0 < lw)
    (hrl : ring.length ≤ 10) (hR : IntsAre vR (keysOf fx lw ring)) (hps : ps.map (·.1) = (lsOf fx lw st ring).map List.toArray) (hok : ∀ c, c < 6 → StepOk fx lw st c kp ring)
    (hwf : WF ring σ) (hl : lens σ 100 100) (hKZ : @Ne Nat K Z) (hRZ : @Ne Nat R Z) (hi : IntsAre vs (keysOf fx lw σ.fresh))
    (h : Rst PySem.Challenge.rw_pg0089_02.row.prog w s fx lw σ.few σ.ways v3 [(Z, W.listOf vs.toArray n), (K, W.listOf (bvals ps).toArray nK), (R, W.listOf vR.toArray nR)] (PI st kp R K Z) s₁) :
    wpC (model PySem.Challenge.rw_pg0089_02.row.prog w) A (exec (rchB 2) (envOfC (Str.ofString "_law_reached") reachScope s.heap.objs.size fa cd))
      (nx fun s' => ∃ vs' n' v3', IntsAre vs' (keysOf fx lw ([2, 3, 4, 5].foldl (bcut ring) σ).fresh) ∧ Rst PySem.Challenge.rw_pg0089_02.row.prog w s fx lw ([2, 3, 4, 5].foldl (bcut ring) σ).few ([2, 3, 4, 5].foldl (bcut ring) σ).ways v3'
        [(Z, W.listOf vs'.toArray n'), (K, W.listOf (bvals ps).toArray nK), (R, W.listOf vR.toArray nR)] (PI st kp R K Z) s') NoE s₁ := by
  show wpC _ _ (exec (Stmt.For (forTarget (rchB 2)) (forIter (rchB 2)) [cutS 0, cutS 1, cutS 2] [] _) _) _ _ _
  obtain ⟨Df, Dw, fo, wo, o1, o2, o3, kf, kw, D, h1, tk1, m, rfl, F, N, hm⟩ := h
  refine forC (iter_cut X T hh F N fun I h4 tk4 F4 N4 off => ?_)
  have hZI : @Ne Nat Z I := off _ (List.mem_map.mpr ⟨_, at5, rfl⟩)
  have hKI : @Ne Nat K I := off _ (List.mem_map.mpr ⟨_, at6, rfl⟩)
  have hRI : @Ne Nat R I := off _ (List.mem_map.mpr ⟨_, at7, rfl⟩)
  have hoI : ∀ oZ oK oR, Off I [(Z, oZ), (K, oK), (R, oR)] := fun _ _ _ => off_cons hZI (off_cons hKI (off_cons hRI (fun _ hb => by cases hb)))
  clear F N off
  conv in (forTarget _) => whnf
  refine forC_inv 4 (CutJ PySem.Challenge.rw_pg0089_02.row.prog w s fx lw st kp R K Z ring σ (W.listOf (bvals ps).toArray nK) (W.listOf vR.toArray nR) I) ?_ ?_ _ 0 _ rfl (Nat.zero_le _) ?_
  · rintro i s' hi4 ⟨vs5, n5, v5, hi5, Df, Dw, fo, wo, o1, o2, o3, kf, kw, D5, h, tk, m', rfl, F5, N5, hm5⟩
    have hmI : (I, rangeO (2 + (i : Int)) (4 - (i : Int)) 1) ∈ [(Z, W.listOf vs5.toArray n5), (K, W.listOf (bvals ps).toArray nK), (R, W.listOf vR.toArray nR), (I, rangeO (2 + (i : Int)) (4 - (i : Int)) 1)] := at3
    have offI := D5.off5 (rest := [(Z, W.listOf vs5.toArray n5), (K, W.listOf (bvals ps).toArray nK), (R, W.listOf vR.toArray nR)]) N5 hmI rfl (hoI _ _ _)
    refine range_turn (s := ⟨h, _, _, _, _⟩) F5 (news_sub N5 re7) offI (by omega) fun h6 F6 N6 => ?_
    have N6' := news_sub N6 re8
    clear F5 N5 N6
    rw [show (2 : Int) + (i : Int) + 1 = 2 + ((i + 1 : Nat) : Int) by omega, show (4 : Int) - (i : Int) - 1 = 4 - ((i + 1 : Nat) : Int) by omega] at N6'
    have hcc : NoCell [(Z, W.listOf vs5.toArray n5), (K, W.listOf (bvals ps).toArray nK), (R, W.listOf vR.toArray nR), (I, rangeO (2 + ((i + 1 : Nat) : Int)) (4 - ((i + 1 : Nat) : Int)) 1)] :=
      noCell_cons (by intro v e; cases e) (noCell_cons (by intro v e; cases e) (noCell_cons (by intro v e; cases e) (noCell_cons (by intro v e; cases e) (fun _ hp => by cases hp))))
    refine wpAny_assign_Name (store_cell (s := ⟨h6, _, _, _, _⟩) F6 N6' (by with_unfolding_all rfl) (by with_unfolding_all rfl) rfl (D5.updC N6' hcc) D5.c3 fun h7 o7 F7 N7 ho7 => ?_)
    clear F6 N6'
    have D7 := { D5 with c3 := ho7 }
    rw [show (2 : Int) + (i : Int) = ((2 + i : Nat) : Int) by omega] at D7
    have hw5 : WF ring (cutsTo ring σ i) := WF.cuts _ (by intro c hc; have := List.mem_of_mem_take hc; simp at this; omega) hwf
    have hl5 : lens (cutsTo ring σ i) 1000 1000 := by
      have h1 := len_cuts ([2, 3, 4, 5].take i) (ring := ring) hl
      have h2 : ([2, 3, 4, 5].take i).length ≤ 4 := Nat.le_trans (List.length_take_le _ _) (by omega)
      have h3 : 2 * ring.length * ([2, 3, 4, 5].take i).length ≤ 20 * 4 := Nat.mul_le_mul (by omega) h2
      have h4 : ring.length * ([2, 3, 4, 5].take i).length ≤ 10 * 4 := Nat.mul_le_mul hrl h2
      exact ⟨Nat.le_trans h1.1 (by omega), Nat.le_trans h1.2.1 (by omega), Nat.le_trans h1.2.2 (by omega)⟩
    refine nextC_mid _ (c0 (c := 2 + i) (ls := lsOf fx lw st ring) X T hh hg hdp at1 hps (fun l hl => by obtain ⟨p, _, rfl⟩ := List.mem_map.mp hl; exact stretch_length ..) (by omega) (by omega) (by rw [lsOf, List.length_map]; omega)
      ⟨Df, Dw, fo, wo, o1, o2, o7, kf, kw, D7, h7, _, _, rfl, F7, N7, hm5⟩) fun s2 L2 => ?_
    refine nextC_mid _ (wpC_of_any (c1 X T hh L2)) fun s3 L3 => ?_
    refine nextC_mid _ (wpC_of_any (c2 (c := 2 + i) X T hh hdp hlw (by omega) hrl hR hps (hok _ (by omega)) hw5 hl5 (fun p hp es ep e => by rw [List.mem_singleton.mp hp] at e; cases e) hKZ hRZ (off_cons (Ne.symm hZI) (fun _ hb => by cases hb)) hi5 rfl L3)) fun s4 L4 => ?_
    obtain ⟨vs6, n6, hi6, L4⟩ := L4
    refine wpC_execs_nil ?_
    dsimp only
    unfold CutJ
    rw [cutsTo_succ hi4]
    obtain ⟨Df', Dw', fo', wo', o1', o2', o3', kf', kw', D', Lx⟩ := L4
    exact ⟨vs6, n6, _, hi6, Df', Dw', fo', wo', o1', o2', o3', kf', kw', D', Lx.mono fun m hm => hm.1⟩
  · rintro s' ⟨vs5, n5, v5, hi5, Df, Dw, fo, wo, o1, o2, o3, kf, kw, D5, h, tk, m', rfl, F5, N5, hm5⟩
    have hmI : (I, rangeO (2 + ((4 : Nat) : Int)) (4 - ((4 : Nat) : Int)) 1) ∈ [(Z, W.listOf vs5.toArray n5), (K, W.listOf (bvals ps).toArray nK), (R, W.listOf vR.toArray nR), (I, rangeO (2 + ((4 : Nat) : Int)) (4 - ((4 : Nat) : Int)) 1)] := at3
    have offI := D5.off5 (rest := [(Z, W.listOf vs5.toArray n5), (K, W.listOf (bvals ps).toArray nK), (R, W.listOf vR.toArray nR)]) N5 hmI rfl (hoI _ _ _)
    refine range_done (s := ⟨h, _, _, _, _⟩) hh F5 (news_sub N5 re7) offI (by decide) fun h6 F6 N6 => ?_
    refine wpC_execs_nil ?_
    exact ⟨rfl, vs5, n5, v5, hi5, Df, Dw, fo, wo, o1, o2, o3, kf, kw, D5, h6, _, _, rfl, F6, N6, hm5⟩
  · exact ⟨vs, n, v3, hi, Df, Dw, fo, wo, o1, o2, o3, kf, kw, D, h4, _, _, rfl, F4, news_sub N4 re8, hm⟩
end
end
/-! RG -/
theorem fresh_RG : True ∧ True := by
  w_top off
  first
    | (walk1; done)
    | exact ⟨trivial, trivial⟩
section
set_option maxRecDepth 100000
set_option maxHeartbeats 4000000
section
variable {w : World} {A : Around} {E : Value → Shared → Prop} {s : Shared} {mean : ExcName → Option Value} {mg mb : Str → Option Value}
section
local macro_rules | `(tactic| walk_at "call ref") => `(tactic| (k_here; (with_reducible show wpAny _ _ (call (Value.ref _) _) _ _ _); (refine stop_call ?_)))
def HasT (m : Str → Option Value) (n : Nat) : Prop := ∃ t, m (Str.ofString "text") = some (.str ⟨(codes n).toArray⟩ t)
def PW (st : Nat) (kp : Int) (R K Z : Addr) (now : Nat) (m : Str → Option Value) : Prop := PI st kp R K Z m ∧ HasI m (Str.ofString "now") now
theorem r0 {fa R K Z : Addr} {cd : Value} {fx lw st now : Nat} {kp : Int} {v3 : Option Value} {few ways : List (Nat × Nat)} {ex : List (Addr × Obj)} {s₁ : Shared} (X : (hd.heap_39 w.params).In s.heap) (T : Top hd.view_39 (looseW hd.view_39 [Str.ofString "_filemode_table"]) mean mg mb s.heap) (hh : A.handled = none) (hdp : A.depth + 9 < recursionLimit) (hn : now < 65536)
    (h : Rst PySem.Challenge.rw_pg0089_02.row.prog w s fx lw few ways v3 ex (PW st kp R K Z now) s₁) :
    wpAny (model PySem.Challenge.rw_pg0089_02.row.prog w) A (exec (rowS 0) (envOfC (Str.ofString "_law_reached") reachScope s.heap.objs.size fa cd))
      (nx (Rst PySem.Challenge.rw_pg0089_02.row.prog w s fx lw few ways v3 ex (fun m => PW st kp R K Z now m ∧ HasT m now))) NoE s₁ := by
  revert X; k_fill; intro X
  conv in (rowS _) => whnf
  conv in reachScope => whnf; zeta
  obtain ⟨Df, Dw, fo, wo, o1, o2, o3, kf, kw, D, h1, tk1, m, rfl, F, N, ⟨⟨⟨⟨t1, hm1⟩, ⟨t2, hm2⟩⟩, hm3⟩, hm4, hm5⟩, ⟨t6, hm6⟩⟩ := h
  unfold dnews at N
  (k_steps; try any_goals (first | exact Str.ofString "" | exact (0 : Addr) | exact Value.none))
  all_goals (try k_data)
  unfold Stop
  rename Fr _ _ _ _ => F2
  rename News _ _ _ _ => N2
  refine filemode_A (Frag.In.keeps X F2.keep) (Top.keeps T F2.keep) (by omega) hh hn fun h3 tk3 t3 hk3 => ?_
  rw [join_one]
  have F3 := fr_kp F2 hk3
  have N3 := news_kp N2 hk3
  clear F2 N2
  dsimp only
  (k_steps; try any_goals (first | exact Str.ofString "" | exact (0 : Addr) | exact Value.none))
  all_goals (try k_data)
  rename Fr _ _ _ _ => F'
  rename News _ _ _ _ => N'
  exact ⟨rfl, Df, Dw, fo, wo, o1, o2, o3, kf, kw, D, _, _, _, rfl, F', N', ⟨⟨⟨⟨⟨_, by with_unfolding_all exact hm1⟩, ⟨_, by with_unfolding_all exact hm2⟩⟩, by with_unfolding_all exact hm3⟩, by with_unfolding_all exact hm4, by with_unfolding_all exact hm5⟩, ⟨_, by with_unfolding_all exact hm6⟩⟩, ⟨_, by with_unfolding_all rfl⟩⟩
theorem r1 {fa R K Z : Addr} {cd : Value} {fx lw st now : Nat} {kp : Int} {v3 : Option Value} {few ways : List (Nat × Nat)} {ex : List (Addr × Obj)} {s₁ : Shared} (X : (hd.heap_39 w.params).In s.heap) (T : Top hd.view_39 (looseW hd.view_39 [Str.ofString "_filemode_table"]) mean mg mb s.heap) (hh : A.handled = none) (hdp : A.depth + 9 < recursionLimit) (hn : now < 65536)
    (h : Rst PySem.Challenge.rw_pg0089_02.row.prog w s fx lw few ways v3 ex (fun m => PW st kp R K Z now m ∧ HasT m now) s₁) :
    wpAny (model PySem.Challenge.rw_pg0089_02.row.prog w) A (exec (rowS 1) (envOfC (Str.ofString "_law_reached") reachScope s.heap.objs.size fa cd))
      (nx (Rst PySem.Challenge.rw_pg0089_02.row.prog w s fx lw few ways v3 ex (fun m => PW st kp R K Z now m ∧ HasT m now))) NoE s₁ := by
  revert X; k_fill; intro X
  conv in (rowS _) => whnf
  conv in reachScope => whnf; zeta
  obtain ⟨Df, Dw, fo, wo, o1, o2, o3, kf, kw, D, h1, tk1, m, rfl, F, N, ⟨⟨⟨⟨⟨t1, hm1⟩, ⟨t2, hm2⟩⟩, hm3⟩, hm4, hm5⟩, ⟨t6, hm6⟩⟩, ⟨t7, hm7⟩⟩ := h
  unfold dnews at N
  (k_steps; try any_goals (first | exact Str.ofString "" | exact (0 : Addr) | exact Value.none))
  all_goals (try k_data)
  unfold Stop
  refine lawtext_A (Frag.In.keeps X F.keep) (Top.keeps T F.keep) (by omega) hh hn fun h3 tk3 t3 hk3 => ?_
  have F3 := fr_kp F hk3
  have N3 := news_kp N hk3
  clear F N
  dsimp only
  (k_steps; try any_goals (first | exact Str.ofString "" | exact (0 : Addr) | exact Value.none))
  all_goals (try k_data)
  · rename (_ != _) = true => hb
    simp at hb
  exact ⟨rfl, Df, Dw, fo, wo, o1, o2, o3, kf, kw, D, _, _, _, rfl, F3, N3, ⟨⟨⟨⟨⟨t1, hm1⟩, ⟨t2, hm2⟩⟩, hm3⟩, hm4, hm5⟩, ⟨t6, hm6⟩⟩, ⟨t7, hm7⟩⟩
end
section
local macro_rules | `(tactic| walk_at "call type:bytes") => `(tactic| (k_here; (refine stop_call ?_)))
local macro_rules | `(tactic| walk_at "call builtin:list.append") => `(tactic| (k_here; (refine stop_call ?_)))
theorem slice_five {n st : Nat} (h : st + 5 ≤ 9) : (Txt.slice (⟨(codes n).toArray⟩ : Str) (some (1 + (st : Int))) (some (6 + (st : Int)))).cps.toList = (List.range 5).map fun j => signAt n (st + j) := by
  have := slice_codes (n := n) h
  rw [show (1 : Int) + (st : Int) + ((5 : Nat) : Int) = 6 + (st : Int) by omega] at this
  exact this
theorem r2 {fa R K Z : Addr} {cd : Value} {fx lw st now nK : Nat} {kp : Int} {v3 : Option Value} {few ways : List (Nat × Nat)} {ps : List (Array UInt8 × Tok)} {ex : List (Addr × Obj)} {s₁ : Shared} (X : (hd.heap_39 w.params).In s.heap) (T : Top hd.view_39 (looseW hd.view_39 [Str.ofString "_filemode_table"]) mean mg mb s.heap) (hh : A.handled = none) (hn : now < 65536) (hs9 : st + 5 ≤ 9) (hpl : ps.length ≤ 100) (offK : Off K ex)
    (h : Rst PySem.Challenge.rw_pg0089_02.row.prog w s fx lw few ways v3 ((K, W.listOf (bvals ps).toArray nK) :: ex) (fun m => PW st kp R K Z now m ∧ HasT m now) s₁) :
    wpAny (model PySem.Challenge.rw_pg0089_02.row.prog w) A (exec (rowS 2) (envOfC (Str.ofString "_law_reached") reachScope s.heap.objs.size fa cd))
      (nx fun s' => ∃ t n', Rst PySem.Challenge.rw_pg0089_02.row.prog w s fx lw few ways v3 ((K, W.listOf (bvals (ps ++ [((stretch now st 5).toArray, t)])).toArray n') :: ex) (PI st kp R K Z) s') NoE s₁ := by
  revert X; k_fill; intro X
  conv in (rowS _) => whnf
  conv in reachScope => whnf; zeta
  obtain ⟨Df, Dw, fo, wo, o1, o2, o3, kf, kw, D, h1, tk1, m, rfl, F, N, ⟨⟨⟨⟨⟨t1, hm1⟩, ⟨t2, hm2⟩⟩, hm3⟩, hm4, hm5⟩, ⟨t6, hm6⟩⟩, ⟨t7, hm7⟩⟩ := h
  unfold dnews at N
  (k_steps; try any_goals (first | exact Str.ofString "" | exact (0 : Addr) | exact Value.none))
  all_goals (try k_data)
  rename Fr _ _ _ _ => F2
  rename News _ _ _ _ => N2
  dsimp only
  have esl := slice_five (n := now) hs9
  generalize Txt.slice _ _ _ = y at esl ⊢
  have ysz : y.cps.size ≤ sizeLine := by
    have := congrArg List.length esl
    simp only [Array.length_toList, List.length_map, List.length_range] at this
    rw [this, PySem.sizeLine_eq]; omega
  refine compE_str (s := ⟨_, _, _, _, _⟩) (G := fun c z => ∃ t, z = .int (c : Int) t) hh F2 N2 ysz ?_ ?_
  · intro C c u s₃ m₃ E' hn3 hm3 hk
    refine Call_ (name_blt X T (fun b o e => hk b o (F2.keep b o e)) (by k_is) boot_ord ?_)
    show wpAny _ _ (callWith _ (.builtin "ord") [] [(false, eval (.Name _ _) _)] []) _ _ _
    exact callWith_builtin1 (wpAny_Name (wpAny_loadName_local rfl rfl hn3 hm3 (P.ord_of_char ⟨⟨_, rfl⟩, _, _, rfl, fun _ _ e => e⟩)))
  intro D' h3 tk3 ys nn hp3 F3 N3
  have hi3 := ints_of_nats hp3
  rw [esl] at hi3
  clear F2 N2
  dsimp only
  (k_steps; try any_goals (first | exact Str.ofString "" | exact (0 : Addr) | exact Value.none))
  all_goals (try k_data)
  unfold Stop
  refine bytes_K F3 N3 (N3.isList (.head _)) hi3 ?_ ?_ hh fun h4 t4 k4 F4 N4 _ => ?_
  · intro k hk
    obtain ⟨c, hc, rfl⟩ := List.mem_map.mp hk
    obtain ⟨j, _, rfl⟩ := List.mem_map.mp hc
    have := sign_lt (m := now) (p := st + j)
    exact ⟨Int.natCast_nonneg _, by show ((signAt now (st + j) : Nat) : Int) < 256; omega⟩
  · have := hi3.length
    simp only [List.length_map, List.length_range] at this
    rw [this, PySem.sizeLine_eq]; omega
  rw [octets_stretch]
  replace N4 := news_tl N4
  clear F3 N3
  dsimp only
  (k_steps; try any_goals (first | exact Str.ofString "" | exact (0 : Addr) | exact Value.none))
  all_goals (try k_data)
  unfold Stop
  refine append_K (s := ⟨_, _, _, _, _⟩) F4 N4 (D.updZ N4 rfl offK) (fun h5 F5 N5 => ?_) (by simp only [bvals, List.size_toArray, List.length_map]; rw [PySem.sizeLine_eq]; omega)
  clear F4 N4
  dsimp only
  (k_steps; try any_goals (first | exact Str.ofString "" | exact (0 : Addr) | exact Value.none))
  all_goals (try k_data)
  have e : (bvals ps).toArray.push (.bytes (stretch now st 5).toArray t4) = (bvals (ps ++ [((stretch now st 5).toArray, t4)])).toArray := by rw [List.push_toArray]; simp [bvals]
  rw [e] at N5
  exact ⟨rfl, t4, _, Df, Dw, fo, wo, o1, o2, o3, kf, kw, D, _, _, _, rfl, F5, N5, ⟨⟨⟨t1, hm1⟩, ⟨t2, hm2⟩⟩, hm3⟩, hm4, hm5⟩
end
end
end
/-! RH -/
theorem fresh_RH : True ∧ True := by
  w_top off
  first
    | (walk1; done)
    | exact ⟨trivial, trivial⟩
section
set_option maxRecDepth 100000
set_option maxHeartbeats 4000000
section
variable {w : World} {A : Around} {E : Value → Shared → Prop} {s : Shared} {mean : ExcName → Option Value} {mg mb : Str → Option Value}
theorem iter_ring {fa R : Addr} {cd : Value} {items : Array Value} {news : List (Addr × Obj)} {h1 : Heap} {m : Str → Option Value} {n tk : Nat} {Q : Value → Shared → Prop} (X : (hd.heap_39 w.params).In s.heap) (T : Top hd.view_39 (looseW hd.view_39 [Str.ofString "_filemode_table"]) mean mg mb s.heap) (F : Fr s.heap s.heap.objs.size h1 m) (N : News s.heap s.heap.objs.size h1 news) (hm3 : m (Str.ofString "ring") = some (.ref R)) (hR : (R, W.listOf items n) ∈ news)
    (hQ : ∀ I h' o, Fr s.heap s.heap.objs.size h' m → News s.heap s.heap.objs.size h' ((I, o) :: news) → listItO R 0 o → Off I news → Q (.ref I) { s with heap := h', toks := tk }) :
    wpAny (model PySem.Challenge.rw_pg0089_02.row.prog w) A (eval (forIter (rchB 1)) (envOfC (Str.ofString "_law_reached") reachScope s.heap.objs.size fa cd)) (fun x s₁ => wpAny (model PySem.Challenge.rw_pg0089_02.row.prog w) A (pyIter x) Q NoE s₁) NoE { s with heap := h1, toks := tk } := by
  revert X; k_fill; intro X
  conv in (forIter _) => whnf
  conv in reachScope => whnf; zeta
  (k_steps; try any_goals (first | exact Str.ofString "" | exact (0 : Addr) | exact Value.none))
  refine list_enter (s := ⟨h1, _, _, _, _⟩) (N.isList hR) F N fun I h4 o4 F4 N4 ho4 off _ _ => hQ I h4 o4 F4 N4 ho4 off
theorem re9 {d1 d2 d3 d4 d5 k z r i : Addr × Obj} : ∀ x ∈ [d1, d2, d3, d4, d5, z, k, r], x ∈ [d1, d2, d3, d4, d5, k, z, r] := by
  intro x hx
  simp only [List.mem_cons, List.not_mem_nil, or_false] at hx ⊢
  rcases hx with h | h | h | h | h | h | h | h <;> simp [h]
def RowJ (prog : Program) (w : World) (s : Shared) (fx lw st : Nat) (kp : Int) (R K Z : Addr) (few ways : List (Nat × Nat)) (v3 : Option Value) (ring : List Nat) (oZ oR : Obj) (I : Addr) (i : Nat) (s' : Shared) : Prop :=
  ∃ nK ps oI, ps.map (·.1) = ((lsOf fx lw st ring).take i).map List.toArray ∧ listItO R i oI ∧
    Rst prog w s fx lw few ways v3 [(K, W.listOf (bvals ps).toArray nK), (Z, oZ), (R, oR), (I, oI)] (PI st kp R K Z) s'
theorem rows {fa R K Z : Addr} {cd : Value} {fx lw st nK nR n : Nat} {kp : Int} {v3 : Option Value} {few ways : List (Nat × Nat)} {ring : List Nat} {vR vs : List Value} {s₁ : Shared} (X : (hd.heap_39 w.params).In s.heap) (T : Top hd.view_39 (looseW hd.view_39 [Str.ofString "_filemode_table"]) mean mg mb s.heap) (hh : A.handled = none) (hdp : A.depth + 9 < recursionLimit)
    (hs9 : st + 5 ≤ 9) (hrl : ring.length ≤ 10) (hR : IntsAre vR (keysOf fx lw ring)) (hmd : ∀ p ∈ ring, fx + lw * p < 65536) (hKZ : @Ne Nat K Z) (hKR : @Ne Nat K R)
    (h : Rst PySem.Challenge.rw_pg0089_02.row.prog w s fx lw few ways v3 [(K, W.listOf #[] nK), (Z, W.listOf vs.toArray n), (R, W.listOf vR.toArray nR)] (PI st kp R K Z) s₁) :
    wpAny (model PySem.Challenge.rw_pg0089_02.row.prog w) A (exec (rchB 1) (envOfC (Str.ofString "_law_reached") reachScope s.heap.objs.size fa cd))
      (nx fun s' => ∃ nK' ps, ps.map (·.1) = (lsOf fx lw st ring).map List.toArray ∧ Rst PySem.Challenge.rw_pg0089_02.row.prog w s fx lw few ways v3 [(Z, W.listOf vs.toArray n), (K, W.listOf (bvals ps).toArray nK'), (R, W.listOf vR.toArray nR)] (PI st kp R K Z) s') NoE s₁ := by
  show wpAny _ _ (exec (Stmt.For (forTarget (rchB 1)) (forIter (rchB 1)) [rowS 0, rowS 1, rowS 2] [] _) _) _ _ _
  obtain ⟨Df, Dw, fo, wo, o1, o2, o3, kf, kw, D, h1, tk1, m, rfl, F, N, hm⟩ := h
  have hrl2 := ints_length hR
  rw [keysOf, List.length_map] at hrl2
  refine forA (iter_ring X T F N hm.1.2 at7 fun I h4 o4 F4 N4 ho4 off => ?_)
  have hKI : @Ne Nat K I := off _ (List.mem_map.mpr ⟨_, at5, rfl⟩)
  have hZI : @Ne Nat Z I := off _ (List.mem_map.mpr ⟨_, at6, rfl⟩)
  have hRI : @Ne Nat R I := off _ (List.mem_map.mpr ⟨_, at7, rfl⟩)
  have hoI : ∀ oZ oK oR, Off I [(K, oK), (Z, oZ), (R, oR)] := fun _ _ _ => off_cons hKI (off_cons hZI (off_cons hRI (fun _ hb => by cases hb)))
  clear F N off
  conv in (forTarget _) => whnf
  refine forA_inv vR.toArray.size (RowJ PySem.Challenge.rw_pg0089_02.row.prog w s fx lw st kp R K Z few ways v3 ring (W.listOf vs.toArray n) (W.listOf vR.toArray nR) I) ?_ ?_ _ 0 _ rfl (Nat.zero_le _) ?_
  · rintro i s' hilt ⟨nK5, ps, oI, hps, hoi, Df, Dw, fo, wo, o1, o2, o3, kf, kw, D5, h, tk, m', rfl, F5, N5, hm5⟩
    have hir : i < ring.length := by rw [List.size_toArray] at hilt; omega
    have hrg : ring.getD i 0 ∈ ring := by rw [List.getD_eq_getElem?_getD, List.getElem?_eq_getElem hir]; exact List.getElem_mem hir
    have hx2 : (keysOf fx lw ring)[i]? = some (keyN fx lw (ring.getD i 0)) := by
      rw [keysOf, List.getElem?_map, List.getD_eq_getElem?_getD, List.getElem?_eq_getElem hir]; rfl
    obtain ⟨t, hv⟩ := hR.get i _ hx2
    have hpl : ps.length = i := by
      have := congrArg List.length hps
      simp only [List.length_map, List.length_take, lsOf] at this
      omega
    have hmI : (I, oI) ∈ [(K, W.listOf (bvals ps).toArray nK5), (Z, W.listOf vs.toArray n), (R, W.listOf vR.toArray nR), (I, oI)] := at3
    have offI := D5.off5 (rest := [(K, W.listOf (bvals ps).toArray nK5), (Z, W.listOf vs.toArray n), (R, W.listOf vR.toArray nR)]) N5 hmI hoi.2 (hoI _ _ _)
    refine list_turn (s := ⟨h, _, _, _, _⟩) F5 (news_sub N5 re7) hoi (items := vR.toArray) (N5.isList at7) (by rw [List.getElem?_toArray]; exact hv) offI fun h6 o6 F6 N6 ho6 => ?_
    have N6' := news_sub N6 re8
    clear F5 N5 N6 F4 N4
    refine wpAny_assign_Name (store_L2 (s := ⟨h6, _, _, _, _⟩) F6 N6' rfl (fun h7 F7 N7 => ?_) rfl rfl)
    clear F6 N6'
    obtain ⟨⟨⟨⟨t1, hm1⟩, ⟨t2, hm2⟩⟩, hm3⟩, hm4, hm5⟩ := hm5
    refine nextA_mid _ (r0 (now := fx + lw * ring.getD i 0) (kp := kp) (st := st) (R := R) (K := K) (Z := Z) X T hh hdp (hmd _ hrg) ⟨Df, Dw, fo, wo, o1, o2, o3, kf, kw, D5, h7, _, _, rfl, F7, N7, ⟨⟨⟨⟨_, by with_unfolding_all exact hm1⟩, ⟨_, by with_unfolding_all exact hm2⟩⟩, by with_unfolding_all exact hm3⟩, by with_unfolding_all exact hm4, by with_unfolding_all exact hm5⟩, ⟨_, by with_unfolding_all rfl⟩⟩) fun s2 L2 => ?_
    refine nextA_mid _ (r1 X T hh hdp (hmd _ hrg) L2) fun s3 L3 => ?_
    refine nextA_mid _ (r2 X T hh (hmd _ hrg) hs9 (by omega) (off_cons (Ne.symm hKZ) (off_cons (Ne.symm hKR) (off_cons (Ne.symm hKI) (fun _ hb => by cases hb)))) L3) fun s4 L4 => ?_
    obtain ⟨t4, n4, L4⟩ := L4
    refine wpAny_execs_nil ?_
    refine ⟨n4, _, o6, ?_, ho6, L4⟩
    rw [List.take_add_one, List.map_append, List.map_append, hps, lsOf, List.getElem?_map, List.getElem?_eq_getElem hir, List.getD_eq_getElem?_getD, List.getElem?_eq_getElem hir]
    rfl
  · rintro s' ⟨nK5, ps, oI, hps, hoi, Df, Dw, fo, wo, o1, o2, o3, kf, kw, D5, h, tk, m', rfl, F5, N5, hm5⟩
    have hmI : (I, oI) ∈ [(K, W.listOf (bvals ps).toArray nK5), (Z, W.listOf vs.toArray n), (R, W.listOf vR.toArray nR), (I, oI)] := at3
    have offI := D5.off5 (rest := [(K, W.listOf (bvals ps).toArray nK5), (Z, W.listOf vs.toArray n), (R, W.listOf vR.toArray nR)]) N5 hmI hoi.2 (hoI _ _ _)
    refine list_done (s := ⟨h, _, _, _, _⟩) hh F5 (news_sub N5 re7) hoi (items := vR.toArray) (N5.isList at7) (by rw [Array.getElem?_eq_none]; omega) offI fun h6 F6 N6 => ?_
    refine wpAny_execs_nil ?_
    rw [List.take_of_length_le (by rw [lsOf, List.length_map, List.size_toArray]; omega)] at hps
    exact ⟨rfl, nK5, ps, hps, Df, Dw, fo, wo, o1, o2, o3, kf, kw, D5, h6, _, _, rfl, F6, news_sub N6 (re9 (i := (I, oI))), hm5⟩
  · exact ⟨nK, [], o4, rfl, ho4, Df, Dw, fo, wo, o1, o2, o3, kf, kw, D, h4, _, _, rfl, F4, news_sub N4 re8, hm⟩
end
end
/-! RI -/
theorem fresh_RI : True ∧ True := by
  w_top off
  first
    | (walk1; done)
    | exact ⟨trivial, trivial⟩
section
set_option maxRecDepth 100000
set_option maxHeartbeats 4000000
section
variable {w : World} {A : Around} {E : Value → Shared → Prop} {s : Shared} {mean : ExcName → Option Value} {mg mb : Str → Option Value}
theorem h3 {fa R K Z : Addr} {cd : Value} {fx lw st : Nat} {kp : Int} {v3 : Option Value} {few ways : List (Nat × Nat)} {oZ oK oR : Obj} {s₁ : Shared} (X : (hd.heap_39 w.params).In s.heap) (T : Top hd.view_39 (looseW hd.view_39 [Str.ofString "_filemode_table"]) mean mg mb s.heap)
    (h : Rst PySem.Challenge.rw_pg0089_02.row.prog w s fx lw few ways v3 [(Z, oZ), (K, oK), (R, oR)] (PI st kp R K Z) s₁) :
    wpAny (model PySem.Challenge.rw_pg0089_02.row.prog w) A (exec (rchB 3) (envOfC (Str.ofString "_law_reached") reachScope s.heap.objs.size fa cd))
      (nx (Rst PySem.Challenge.rw_pg0089_02.row.prog w s fx lw few ways v3 [(Z, oZ)] (R1 st kp Z))) NoE s₁ := by
  revert X; k_fill; intro X
  conv in (rchB _) => whnf
  conv in reachScope => whnf; zeta
  obtain ⟨Df, Dw, fo, wo, o1, o2, o3, kf, kw, D, h1, tk1, m, rfl, F, N, ⟨⟨⟨t1, hm1⟩, ⟨t2, hm2⟩⟩, hm3⟩, hm4, hm5⟩ := h
  unfold dnews at N
  (k_steps; try any_goals (first | exact Str.ofString "" | exact (0 : Addr) | exact Value.none))
  all_goals (try k_data)
  rename Fr _ _ _ _ => F'
  rename News _ _ _ _ => N'
  refine ⟨rfl, Df, Dw, fo, wo, o1, o2, o3, kf, kw, D, _, _, _, rfl, F', news_sub N' ?_, ⟨⟨_, by with_unfolding_all exact hm1⟩, ⟨_, by with_unfolding_all exact hm2⟩⟩, by with_unfolding_all rfl⟩
  exact sub6 at0 at1 at2 at3 at4 at5
theorem re12 {t k z d1 d2 d3 d4 d5 r : Addr × Obj} : ∀ x ∈ [d1, d2, d3, d4, d5, k, z, r], x ∈ [t, z, k, d1, d2, d3, d4, d5, r] := by
  intro x hx
  simp only [List.mem_cons, List.not_mem_nil, or_false] at hx ⊢
  rcases hx with h | h | h | h | h | h | h | h <;> simp [h]
theorem h0 {fa R : Addr} {cd : Value} {fx lw st nR : Nat} {kp : Int} {v3 : Option Value} {few ways : List (Nat × Nat)} {vR : List Value} {s₁ : Shared} (X : (hd.heap_39 w.params).In s.heap) (T : Top hd.view_39 (looseW hd.view_39 [Str.ofString "_filemode_table"]) mean mg mb s.heap) (hh : A.handled = none)
    (h : Rst PySem.Challenge.rw_pg0089_02.row.prog w s fx lw few ways v3 [(R, W.listOf vR.toArray nR)] (R1 st kp R) s₁) :
    wpAny (model PySem.Challenge.rw_pg0089_02.row.prog w) A (exec (rchB 0) (envOfC (Str.ofString "_law_reached") reachScope s.heap.objs.size fa cd))
      (nx fun s' => ∃ K Z nK n, @Ne Nat K Z ∧ @Ne Nat K R ∧ @Ne Nat R Z ∧ Rst PySem.Challenge.rw_pg0089_02.row.prog w s fx lw few ways v3 [(K, W.listOf #[] nK), (Z, W.listOf #[] n), (R, W.listOf vR.toArray nR)] (PI st kp R K Z) s') NoE s₁ := by
  revert X; k_fill; intro X
  conv in (rchB _) => whnf
  conv in reachScope => whnf; zeta
  obtain ⟨Df, Dw, fo, wo, o1, o2, o3, kf, kw, D, h1, tk1, m, rfl, F, N, ⟨⟨t1, hm1⟩, ⟨t2, hm2⟩⟩, hm3⟩ := h
  unfold dnews at N
  (k_steps; try any_goals (first | exact Str.ofString "" | exact (0 : Addr) | exact Value.none))
  all_goals (try k_data)
  rename Fr _ _ _ _ => F2
  rename News _ _ _ _ => N2
  refine unpackItemsN_ (s := ⟨_, _, _, _, _⟩) F2 N2 (N2.isTup at0) hh rfl ?_
  intro h3 F3 N3
  clear F2 N2
  (k_steps; try any_goals (first | exact Str.ofString "" | exact (0 : Addr) | exact Value.none))
  all_goals (try k_data)
  rename Fr _ _ _ _ => F'
  rename News _ _ _ _ => N'
  refine ⟨rfl, _, _, _, _, ?_, ?_, ?_, Df, Dw, fo, wo, o1, o2, o3, kf, kw, D, _, _, _, rfl, F', news_sub N' (re12), ⟨⟨⟨_, by with_unfolding_all exact hm1⟩, ⟨_, by with_unfolding_all exact hm2⟩⟩, by with_unfolding_all exact hm3⟩, by with_unfolding_all rfl, by with_unfolding_all rfl⟩
  all_goals omega
end
end
/-! Whiles -/
section
set_option maxRecDepth 100000
set_option maxHeartbeats 4000000
section
variable {prog : Program} {w : World} {A : Around} {E : Value → Shared → Prop} {s : Shared} {env : Env} {R : Result → Shared → Prop}
theorem whileC_step {test : Expr} {body orelse : List Stmt} (h : wpAny (model prog w) A (isTrue test env (eval test env)) (fun b s₁ =>
      if b = true then wpC (model prog w) A (execs body env) (fun f s₃ => match f with
            | .next | .cont => codeC (model prog w) A (.whileLoop test body orelse env) R s₃
            | .brk => R (.ok .next) s₃
            | .ret v => R (.ok (.ret v)) s₃) NoE s₁
      else wpC (model prog w) A (execs orelse env) (fun f s₃ => R (.ok f) s₃) NoE s₁) NoE s) : codeC (model prog w) A (.whileLoop test body orelse env) R s := by
  refine codeC_of_tree ?_
  show wpC _ A ((whileTurn test body orelse env).onRaise (fun x => do noteFrame x env; theTreesLotGoes x)) _ _ s
  refine wpC_onRaise (clean_noE ?_)
  simp only [whileTurn]
  refine wpC_seq (wpAny_mono h (fun b s₁ h₁ => ?_) fun _ _ h' => h')
  cases b with
  | true =>
    rw [if_pos rfl] at h₁ ⊢
    refine wpC_bind (wpC_mono h₁ (fun f s₃ h₃ => ?_) fun _ _ h' => h')
    cases f with
    | next => exact wpC_pure ⟨rfl, h₃⟩
    | cont => exact wpC_pure ⟨rfl, h₃⟩
    | brk => exact wpC_pure h₃
    | ret v => exact wpC_pure h₃
  | false =>
    rw [if_neg (by decide)] at h₁ ⊢
    refine wpC_bind (wpC_mono h₁ (fun f s₃ h₃ => ?_) fun _ _ h' => h')
    exact wpC_pure h₃
theorem whileC_inv {test : Expr} {body orelse : List Stmt} (n : Nat) (J : Nat → Shared → Prop)
    (turn : ∀ i s, i < n → J i s → wpAny (model prog w) A (isTrue test env (eval test env)) (fun b s₁ =>
      if b = true then wpC (model prog w) A (execs body env) (fun f s₃ => match f with
            | .next | .cont => J (i + 1) s₃
            | .brk => R (.ok .next) s₃
            | .ret v => R (.ok (.ret v)) s₃) NoE s₁
      else wpC (model prog w) A (execs orelse env) (fun f s₃ => R (.ok f) s₃) NoE s₁) NoE s)
    (done : ∀ s, J n s → wpAny (model prog w) A (isTrue test env (eval test env)) (fun b s₁ => b = false ∧ wpC (model prog w) A (execs orelse env) (fun f s₃ => R (.ok f) s₃) NoE s₁) NoE s) :
    ∀ (k i : Nat) (s : Shared), k = n - i → i ≤ n → J i s → codeC (model prog w) A (.whileLoop test body orelse env) R s := by
  intro k
  induction k with
  | zero =>
    intro i s hk hi hJ
    obtain rfl : i = n := by omega
    refine whileC_step (wpAny_mono (done s hJ) (fun b s₁ h₁ => ?_) fun _ _ e => e)
    obtain ⟨rfl, h₁⟩ := h₁
    rw [if_neg (by decide)]
    exact h₁
  | succ k ih =>
    intro i s hk hi hJ
    refine whileC_step (wpAny_mono (turn i s (by omega) hJ) (fun b s₁ h₁ => ?_) fun _ _ e => e)
    cases b with
    | true =>
      rw [if_pos rfl] at h₁ ⊢
      refine wpC_mono h₁ (fun f s₃ h₄ => ?_) fun _ _ e => e
      cases f with
      | next => exact ih (i + 1) s₃ (by omega) (by omega) h₄
      | cont => exact ih (i + 1) s₃ (by omega) (by omega) h₄
      | brk => exact h₄
      | ret v => exact h₄
    | false => exact h₁
theorem whileC {test : Expr} {body orelse : List Stmt} {pos : Pos} {Q : Flow → Shared → Prop} (h : codeC (model prog w) A (.whileLoop test body orelse env) (Ret Q) s) : wpC (model prog w) A (exec (.While test body orelse pos) env) Q E s := by
  rw [exec_While]
  exact wpC_seq (wpAny_standAt (wpC_runOwn h))
end
end
/-! RJ -/
theorem fresh_RJ : True ∧ True := by
  w_top off
  first
    | (walk1; done)
    | exact ⟨trivial, trivial⟩
section
set_option maxRecDepth 100000
set_option maxHeartbeats 4000000
def whTest : Stmt → Expr
  | .While t _ _ _ => t
  | _ => .Constant .none 0 ⟨0, 0, 0, 0⟩
section
variable {w : World} {A : Around} {E : Value → Shared → Prop} {s : Shared} {mean : ExcName → Option Value} {mg mb : Str → Option Value}
theorem wh_test {fa R : Addr} {cd : Value} {items : Array Value} {news : List (Addr × Obj)} {h1 : Heap} {m : Str → Option Value} {n tk : Nat} {Q : Bool → Shared → Prop} (X : (hd.heap_39 w.params).In s.heap) (T : Top hd.view_39 (looseW hd.view_39 [Str.ofString "_filemode_table"]) mean mg mb s.heap) (F : Fr s.heap s.heap.objs.size h1 m) (N : News s.heap s.heap.objs.size h1 news) (hm3 : m (Str.ofString "ring") = some (.ref R)) (hR : (R, W.listOf items n) ∈ news) (hz : items.size ≤ 4096)
    (hQ : ∀ tk', Q (decide (0 < items.size)) { s with heap := h1, toks := tk' }) :
    wpAny (model PySem.Challenge.rw_pg0089_02.row.prog w) A (isTrue (whTest (reachSt 1)) (envOfC (Str.ofString "_law_reached") reachScope s.heap.objs.size fa cd) (eval (whTest (reachSt 1)) (envOfC (Str.ofString "_law_reached") reachScope s.heap.objs.size fa cd))) Q NoE { s with heap := h1, toks := tk } := by
  revert X; k_fill; intro X
  have hl := N.isList hR
  rw [show whTest (reachSt 1) = .Name (Str.ofString "ring") ⟨67, 10, 67, 14⟩ from rfl]
  conv in reachScope => whnf; zeta
  (k_steps; try any_goals (first | exact Str.ofString "" | exact (0 : Addr) | exact Value.none))
  have e : (!items.isEmpty) = decide (0 < items.size) := by
    unfold Array.isEmpty
    rcases Nat.eq_zero_or_pos items.size with e | e
    · rw [e]; rfl
    · rw [decide_eq_true e, decide_eq_false (by omega)]; rfl
  rw [e]
  exact hQ _
def WhJ (prog : Program) (w : World) (s : Shared) (fx lw st g : Nat) (kp : Int) (k : Nat) (s' : Shared) : Prop :=
  ∃ R vs n v3, IntsAre vs (keysOf fx lw (brun g k).fresh) ∧ Rst prog w s fx lw (brun g k).few (brun g k).ways v3 [(R, W.listOf vs.toArray n)] (R1 st kp R) s'
theorem rst1 {fa R : Addr} {cd : Value} {fx lw st g n : Nat} {kp : Int} {v3 : Option Value} {vs : List Value} {s₁ : Shared} (X : (hd.heap_39 w.params).In s.heap) (T : Top hd.view_39 (looseW hd.view_39 [Str.ofString "_filemode_table"]) mean mg mb s.heap) (hh : A.handled = none) (hg : A.guards = some []) (hdp : A.depth + 9 < recursionLimit) (hlw : 0 < lw)
    (hs9 : st + 5 ≤ 9) (hgo : g ∈ goals) (hok : ∀ ring : List Nat, (∀ p ∈ ring, p < 32) → ∀ c, c < 6 → StepOk fx lw st c kp ring) (hmd : ∀ p, p < 32 → fx + lw * p < 65536)
    (hi : IntsAre vs (keysOf fx lw [g]))
    (h : Rst PySem.Challenge.rw_pg0089_02.row.prog w s fx lw (bstart g).few (bstart g).ways v3 [(R, W.listOf vs.toArray n)] (R1 st kp R) s₁) :
    wpC (model PySem.Challenge.rw_pg0089_02.row.prog w) A (exec (reachSt 1) (envOfC (Str.ofString "_law_reached") reachScope s.heap.objs.size fa cd))
      (nx fun s' => ∃ R, ∃ vs : List Value, ∃ n v3, Rst PySem.Challenge.rw_pg0089_02.row.prog w s fx lw (brun g 7).few (brun g 7).ways v3 [(R, W.listOf vs.toArray n)] (R1 st kp R) s') NoE s₁ := by
  show wpC _ _ (exec (Stmt.While (whTest (reachSt 1)) [rchB 0, rchB 1, rchB 2, rchB 3] [] _) _) _ _ _
  have hfacts := List.all_eq_true.mp goal_facts g hgo
  rw [Bool.and_eq_true] at hfacts
  have hg32 : g < 32 := of_decide_eq_true hfacts.1
  have hk : ∀ k, k < 8 → (brun g k).few.length ≤ 10 ∧ (brun g k).ways.length ≤ 10 ∧ (brun g k).fresh.length ≤ 10 ∧ (k < 6 ∨ (brun g k).fresh = []) := by
    intro k hk
    have := List.all_eq_true.mp hfacts.2 k (List.mem_range.mpr hk)
    simp only [Bool.and_eq_true, Bool.or_eq_true, decide_eq_true_eq, List.isEmpty_iff] at this
    exact ⟨this.1.1.1, this.1.1.2, this.1.2, this.2⟩
  refine whileC (whileC_inv 7 (WhJ PySem.Challenge.rw_pg0089_02.row.prog w s fx lw st g kp) ?_ ?_ _ 0 _ rfl (Nat.zero_le _) ⟨R, vs, n, v3, hi, h⟩)
  · rintro k s' hk7 ⟨R, vs, n, v3, hi, Df, Dw, fo, wo, o1, o2, o3, kf, kw, D, h1, tk1, m, rfl, F, N, hm⟩
    have hlen := ints_length hi
    rw [keysOf, List.length_map] at hlen
    obtain ⟨f1, f2, f3, f4⟩ := hk k (by omega)
    have hwf := WF.run hg32 k
    refine wh_test X T F N hm.2 at5 (by rw [List.size_toArray]; omega) fun tk' => ?_
    rw [List.size_toArray, hlen]
    by_cases h0' : 0 < (brun g k).fresh.length
    · rw [decide_eq_true h0', if_pos rfl]
      refine nextC_mid _ (wpC_of_any (h0 X T hh ⟨Df, Dw, fo, wo, o1, o2, o3, kf, kw, D, h1, tk', m, rfl, F, N, hm⟩)) fun s2 L2 => ?_
      obtain ⟨K, Z, nK, nZ, hKZ, hKR, hRZ, L2⟩ := L2
      refine nextC_mid _ (wpC_of_any (rows (vs := []) (vR := vs) (ring := (brun g k).fresh) X T hh hdp hs9 f3 hi (fun p hp => hmd p (hwf.hr p hp).2) hKZ hKR L2)) fun s3 L3 => ?_
      obtain ⟨nK', ps, hps, L3⟩ := L3
      refine nextC_mid _ (cuts (σ := ⟨(brun g k).few, (brun g k).ways, []⟩) (vs := []) X T hh hg hdp hlw f3 hi hps (hok _ fun p hp => (hwf.hr p hp).2) hwf ⟨by show (brun g k).few.length ≤ _; omega, by show (brun g k).ways.length ≤ _; omega, by show 0 ≤ _; omega⟩ hKZ hRZ .nil L3) fun s4 L4 => ?_
      obtain ⟨vs', n', v3', hi', L4⟩ := L4
      refine nextC_mid _ (wpC_of_any (h3 X T L4)) fun s5 L5 => ?_
      refine wpC_execs_nil ?_
      exact ⟨Z, vs', n', v3', hi', L5⟩
    · rw [decide_eq_false h0', if_neg (by decide)]
      refine wpC_execs_nil ?_
      have he : (brun g k).fresh = [] := List.length_eq_zero_iff.mp (by omega)
      have e7 : brun g 7 = brun g k := by
        have := brun_more he (7 - k)
        rwa [show k + (7 - k) = 7 by omega] at this
      rw [e7]
      exact ⟨rfl, R, vs, n, v3, Df, Dw, fo, wo, o1, o2, o3, kf, kw, D, h1, tk', m, rfl, F, N, hm⟩
  · rintro s' ⟨R, vs, n, v3, hi, Df, Dw, fo, wo, o1, o2, o3, kf, kw, D, h1, tk1, m, rfl, F, N, hm⟩
    have hlen := ints_length hi
    rw [keysOf, List.length_map] at hlen
    obtain ⟨f1, f2, f3, f4⟩ := hk 7 (by omega)
    have he : (brun g 7).fresh = [] := by
      rcases f4 with f4 | f4
      · omega
      · exact f4
    refine wh_test X T F N hm.2 at5 (by rw [List.size_toArray]; omega) fun tk' => ?_
    rw [List.size_toArray, hlen, he]
    refine ⟨rfl, wpC_execs_nil ?_⟩
    exact ⟨rfl, R, vs, n, v3, Df, Dw, fo, wo, o1, o2, o3, kf, kw, D, h1, tk', m, rfl, F, N, hm⟩
end
end
/-! Math5 -/
section
set_option maxRecDepth 100000
set_option maxHeartbeats 4000000
theorem sorted_uniq : ∀ {l1 l2 : List Int}, l1.Perm l2 → l1.Pairwise (· ≤ ·) → l2.Pairwise (· ≤ ·) → l1 = l2
  | [], l2, h, _, _ => (List.nil_perm.mp h).symm
  | a :: l1, [], h, _, _ => (List.perm_nil.mp h)
  | a :: l1, b :: l2, h, h1, h2 => by
    have hab : a = b := by
      have ha : a ∈ b :: l2 := h.mem_iff.mp (.head _)
      have hb : b ∈ a :: l1 := h.mem_iff.mpr (.head _)
      have e1 : b ≤ a := by
        rcases List.mem_cons.mp ha with e | ha
        · omega
        · exact (List.pairwise_cons.mp h2).1 _ ha
      have e2 : a ≤ b := by
        rcases List.mem_cons.mp hb with e | hb
        · omega
        · exact (List.pairwise_cons.mp h1).1 _ hb
      omega
    subst hab
    rw [sorted_uniq (List.Perm.cons_inv h) (List.pairwise_cons.mp h1).2 (List.pairwise_cons.mp h2).2]
def keysOf' (fx lw : Nat) (ring : List Nat) : List Int := ring.map (keyN fx lw)
def pics (g : Nat) : List Nat := (List.range 32).filter (hasN (brun g 7).few)
theorem pics_len (g : Nat) : (pics g).length ≤ 32 := by
  have := List.length_filter_le (hasN (brun g 7).few) (List.range 32)
  rw [List.length_range] at this
  exact this
theorem pics_has {g r : Nat} (h : r ∈ pics g) : hasN (brun g 7).few r = true := by
  unfold pics at h
  exact (List.mem_filter.mp h).2
theorem pics_facts : (goals.all fun g => ((brun g 7).few.map (·.1)).isPerm (pics g)) = true := by decide +kernel
theorem range_sorted (fx lw : Nat) (p : Nat → Bool) (n : Nat) : (keysOf' fx lw ((List.range n).filter p)).Pairwise (· ≤ ·) := by
  unfold keysOf'
  rw [List.pairwise_map]
  refine List.Pairwise.imp ?_ (List.Pairwise.filter _ List.pairwise_lt_range)
  intro a b hab
  unfold keyN
  have := Nat.mul_le_mul_left lw (Nat.le_of_lt hab)
  omega
theorem sorted_pics {fx lw g : Nat} {ns : List Int} (hg : g ∈ goals) (hp : ns.Perm (keysOf' fx lw ((brun g 7).few.map (·.1)))) (hs : ns.Pairwise (· ≤ ·)) : ns = keysOf' fx lw (pics g) := by
  have h1 := List.isPerm_iff.mp (List.all_eq_true.mp pics_facts g hg)
  exact sorted_uniq (hp.trans (h1.map _)) hs (range_sorted fx lw _ 32)
end
/-! RK -/
theorem fresh_RK : True ∧ True := by
  w_top off
  first
    | (walk1; done)
    | exact ⟨trivial, trivial⟩
section
set_option maxRecDepth 100000
set_option maxHeartbeats 4000000
theorem tab_keys {fx lw : Nat} : ∀ {kvs : List (Int × Value)} {l : List (Nat × Nat)}, TabN fx lw kvs l → kvs.map (·.1) = keysOf' fx lw (l.map (·.1))
  | _, _, .nil => rfl
  | (k, v) :: kvs, (a, b) :: l, .cons ⟨h1, _⟩ r => by
    dsimp only at h1
    subst h1
    have ih := tab_keys r
    unfold keysOf' at ih ⊢
    rw [List.map_cons, List.map_cons, List.map_cons, ih]
section
variable {w : World} {A : Around} {E : Value → Shared → Prop} {s : Shared}
theorem sort_few {prog : Program} {fx lw : Nat} {few ways : List (Nat × Nat)} {ps : List Nat} {v3 : Option Value} {Df Dw : Addr} {fo wo o1 o2 o3 : Obj} {kf kw : List (Int × Value)} {h₀ : Heap} {L : Addr} {m : Str → Option Value} {s0 : Shared} {ex : List (Addr × Obj)} {Q : Value → Shared → Prop} (hh : A.handled = none) (hso : ∀ ns : List Int, ns.Perm (keysOf' fx lw (few.map (·.1))) → ns.Pairwise (· ≤ ·) → ns = keysOf' fx lw ps)
    (D : DT prog w fx lw few ways v3 Df Dw fo wo o1 o2 o3 kf kw) (F : Fr h₀ L s.heap m) (N : News h₀ L s.heap (dnews s0 Df Dw fo wo o1 o2 o3 ex)) (hlen : few.length ≤ 10)
    (hQ : ∀ B h' tk vs n, Fr h₀ L h' m → News h₀ L h' ((B, W.listOf vs.toArray n) :: dnews s0 Df Dw fo wo o1 o2 o3 ex) → IntsAre vs (keysOf fx lw ps) → Q (.ref B) { s with heap := h', toks := tk }) :
    wpAny (model prog w) A (call (.builtin "sorted") [.ref Df]) Q E s := by
  obtain ⟨ep, hat⟩ := (kda_dict N at0 D.df).dictAt
  have hkl := tab_len D.tf
  refine kdu_sorted (kdl_dict (knd := intKind prog w) (kvs := kf) (ep := ep) D.sf) hh F N hat (by rw [sizeLine_eq]; omega) fun B h' tk vs F' N' l1 hl hv => ?_
  have hi : IntsAre vs (kf.map (·.1)) := ints_of_at (by rw [List.length_map]; exact hl) fun i y hy => by
    obtain ⟨k, x, hk, hs⟩ := hv i y hy
    obtain ⟨t, rfl⟩ := Value.isInt_shape hs
    refine ⟨t, ?_⟩
    rw [List.getD_eq_getElem?_getD, List.getElem?_map, hk]; rfl
  refine ksk_lsort (A := A.in1) (s := ⟨h', _, _, _, _⟩) (news' := fun o => (B, o) :: dnews s0 Df Dw fo wo o1 o2 o3 ex) F' N' (fun o => .head (fun p hp => Nat.ne_of_lt (l1 p hp))) (List.toList_toArray ..) hi (by rw [List.length_map]; omega) fun vs' ns' c h2 F2 N2 hi2 _ hp hs _ => ?_
  rw [tab_keys D.tf] at hp
  rw [hso _ hp hs] at hi2
  exact hQ B h2 _ vs' c F2 N2 hi2
end
end
/-! Comp10 -/
section
set_option maxRecDepth 100000
set_option maxHeartbeats 4000000
def refsL (tps : List (Addr × Obj)) : List Value := tps.map fun p => .ref p.1
/-- an element's end that is a new object -/
def GEnd (s₂ : Shared) (h₀ : Heap) (L : Addr) (m : Str → Option Value) (C D I : Addr) (news : List (Addr × Obj)) (G : Obj → Prop) (y : Value) (s' : Shared) : Prop :=
  ∃ h' tk' d o, y = .ref d ∧ s' = { s₂ with heap := h', toks := tk' } ∧ Fr h₀ L h' m ∧ News h₀ L h' ((d, o) :: news) ∧ @Ne Nat d C ∧ @Ne Nat d D ∧ @Ne Nat d I ∧ G o
def CSrcG (prog : Program) (w : World) (A : Around) (h₀ : Heap) (L : Addr) (m : Str → Option Value) (env : Env) (elt : Expr) (x : Str) (scope : Scope) (cl : List (Str × Addr)) (Q : Value → Shared → Prop) (it : Value) (s₂ : Shared) : Prop :=
  ∃ I fp n P St oI rest, ∃ G : Nat → Obj → Prop, it = .ref I ∧ Walks prog w A I fp [I] n P St ∧ n ≤ sizeLine ∧ St 0 s₂.heap ∧ (∀ i h, St i h → ∃ o, h.get? I = some o) ∧ (∀ b ∈ fp, b = I ∨ (∃ ob, (b, ob) ∈ rest) ∨ ∃ ob, h₀.get? b = some ob) ∧
    Fr h₀ L s₂.heap m ∧ News h₀ L s₂.heap ((I, oI) :: rest) ∧ Off I rest ∧
    (∀ i v C oC D mC tps oI h tk, i < n → P i v → Fr h₀ L h m → News h₀ L h ((C, oC) :: (D, LCg.lst (refsL tps)) :: (I, oI) :: (rest ++ tps)) → LCg.NsObj oC mC → mC x = some v →
      wpAny (model prog w) A (eval elt (compEnvC scope cl C env)) (GEnd s₂ h₀ L m C D I ((C, oC) :: (D, LCg.lst (refsL tps)) :: (I, oI) :: (rest ++ tps)) (G i)) NoE { s₂ with heap := h, toks := tk }) ∧
    ∀ D h tk tps, Fr h₀ L h m → News h₀ L h ((D, LCg.lst (refsL tps)) :: (rest ++ tps)) → Off D (rest ++ tps) → tps.length = n → (∀ (i : Nat) p, tps[i]? = some p → G i p.2) → Q (.ref D) { s₂ with heap := h, toks := tk }
theorem off_app {I : Addr} {a b : List (Addr × Obj)} (h1 : Off I a) (h2 : Off I b) : Off I (a ++ b) := by
  intro x hx
  rw [List.map_append] at hx
  rcases List.mem_append.mp hx with hx | hx
  · exact h1 x hx
  · exact h2 x hx
theorem off_snoc' {I : Addr} {tps : List (Addr × Obj)} {p : Addr × Obj} (h : Off I tps) (hp : @Ne Nat p.1 I) : Off I (tps ++ [p]) := off_app h (off_cons hp fun _ hb => by cases hb)
theorem sub_l {a b : List (Addr × Obj)} : ∀ x ∈ a, x ∈ a ++ b := fun _ hx => List.mem_append_left _ hx
theorem mv1 {d c k i : Addr × Obj} {rest tps : List (Addr × Obj)} : ∀ x ∈ k :: c :: i :: (rest ++ (tps ++ [d])), x ∈ d :: c :: k :: i :: (rest ++ tps) := by
  intro x hx
  simp only [List.mem_cons, List.mem_append, List.not_mem_nil, or_false] at hx ⊢
  rcases hx with h | h | h | h | h | h <;> simp [h]
section
variable {prog : Program} {w : World} {A : Around} {E : Value → Shared → Prop} {env : Env} {elt i0 : Expr} {x0 : Str} {p0 : Pos} {scope : Scope} {pos : Pos} {s : Shared} {h₀ : Heap} {L : Addr} {m : Str → Option Value} {cl : List (Str × Addr)} {Q : Value → Shared → Prop}
theorem LCG (hclos : closureFor scope env = pure cl) (hcell : ∀ y ∈ scope.names, y.2 ≠ .cell) (hkind : scope.kind = .function) (hnames : ∀ y ∈ scope.names, y.2 = .local → scope.names.lookup y.1 = some .local) (hx : scope.names.lookup x0 = some .local)
    (h : wpAny (model prog w) A (eval i0 env) (fun xv s₁ => wpAny (model prog w) A (pyIter xv) (CSrcG prog w A h₀ L m env elt x0 scope cl Q) E s₁) E s)
    (hs : ∀ x, foldedSetIterable i0 env x = pure x := by intro _; rfl) :
    wpAny (model prog w) A (eval (.ListComp elt [⟨.Name x0 p0, i0, [], 0⟩] scope pos) env) Q E s := by
  refine ListComp_one (h₀ := h₀) (L := L) (m := m) hclos hcell hkind hnames (wpAny_mono h (fun xv s₁ h₁ => wpAny_mono h₁ (fun it s₂ h₂ => ?_) fun _ _ e => e) fun _ _ e => e) hs
  obtain ⟨I, fp, n, P, St, oI, rest, G, rfl, W, hsz, hst, hIo, hfp, F, N, off, he, fin⟩ := h₂
  refine ⟨_, F, N, fun Q E h tk F' N' q => W.self 0 _ _ _ (st_keep (h' := h) W hst hfp F F' N N') q, ?_⟩
  intro C D oC mC h tk F1 N1 hC offD offC hDC
  have hst1 : St 0 h := st_keep W hst hfp F F1 N (news_tl (news_tl N1))
  obtain ⟨hID, offD'⟩ := off_of offD
  obtain ⟨hIC, offC'⟩ := off_of offC
  have hfp' : ∀ tps : List (Addr × Obj), ∀ b ∈ fp, b = I ∨ (∃ ob, (b, ob) ∈ rest ++ tps) ∨ ∃ ob, h₀.get? b = some ob := fun tps b hb => by
    rcases hfp b hb with h | ⟨ob, h⟩ | h
    · exact .inl h
    · exact .inr (.inl ⟨ob, sub_l _ h⟩)
    · exact .inr (.inr h)
  refine loop_one n (fun i s' => ∃ h tk oI oC mC tps, s' = { s₂ with heap := h, toks := tk } ∧ Fr h₀ L h m ∧ News h₀ L h ((C, oC) :: (D, LCg.lst (refsL tps)) :: (I, oI) :: (rest ++ tps)) ∧ St i h ∧ LCg.NsObj oC mC ∧ tps.length = i ∧ Off C tps ∧ Off D tps ∧ Off I tps ∧ ∀ (j : Nat) p, tps[j]? = some p → G j p.2) ?_ ?_ n 0 _ rfl (Nat.zero_le _)
    ⟨h, tk, oI, oC, mC, [], rfl, F1, by rw [List.append_nil]; exact N1, hst1, hC, rfl, (fun _ hb => by cases hb), (fun _ hb => by cases hb), (fun _ hb => by cases hb), fun j y e => by simp at e⟩
  · rintro i s' hi ⟨h, tk, oI, oC, mC, tps, rfl, F2, N2, hst2, hC2, hlen, oC1, oD1, oI1, hG⟩
    refine W.item i ⟨h, _, _, _, _⟩ _ _ hi hst2 fun v h3 tk3 hP hst3 hk3 => ⟨v, rfl, ?_⟩
    obtain ⟨gI, gIL, gI0⟩ := N2 _ (.tail _ (.tail _ (.head _)))
    obtain ⟨oI3, hoI3⟩ := hIo _ _ hst3
    have F3 : Fr h₀ L h3 m := fr_but F2 hk3 (nin1 (Ne.symm gIL)) (all1 gI0)
    have N3 : News h₀ L h3 ((C, oC) :: (D, LCg.lst (refsL tps)) :: (I, oI3) :: (rest ++ tps)) := by
      have z : News h₀ L h3 ((C, oC) :: (D, LCg.lst (refsL tps)) :: (rest ++ tps)) := news_but (fun p hp => N2 p (by
        rcases List.mem_cons.mp hp with rfl | hp
        · exact .head _
        rcases List.mem_cons.mp hp with rfl | hp
        · exact .tail _ (.head _)
        · exact .tail _ (.tail _ (.tail _ hp)))) hk3 (off_cons (Ne.symm hIC) (off_cons (Ne.symm hID) (off_app off oI1))).nin
      intro p hp
      rcases List.mem_cons.mp hp with rfl | hp
      · exact z _ (.head _)
      rcases List.mem_cons.mp hp with rfl | hp
      · exact z _ (.tail _ (.head _))
      rcases List.mem_cons.mp hp with rfl | hp
      · exact ⟨hoI3, gIL, gI0⟩
      · exact z _ (.tail _ (.tail _ hp))
    refine wpAny_assign_Name (store_C (s := ⟨h3, _, _, _, _⟩) F3 N3 hC2 (off_cons (Nat.ne_of_lt hDC) (off_cons hIC (off_app offC' oC1))) (fun h4 oC4 m4 F4 N4 hC4 hx4 => ?_) (lookup_relabel_local hx) (by simp [compEnvC, relabel, hkind]))
    have hst4 : St (i + 1) h4 := st_keep W hst3 (hfp' tps) F3 F4 (news_tl (news_tl N3)) (news_tl (news_tl N4))
    refine wpAny_mono (he i v C oC4 D m4 tps oI3 h4 _ hi hP F4 N4 hC4 hx4) (fun y s5 h5 => ?_) fun _ _ e => e
    obtain ⟨h5, tk5, d, o, rfl, rfl, F5, N5, hdC, hdD, hdI, hy⟩ := h5
    have hst5 : St (i + 1) h5 := st_keep W hst4 (hfp' tps) F4 F5 (news_tl (news_tl N4)) (news_tl (news_tl (news_tl N5)))
    have hlr : (refsL tps).length ≤ sizeLine := by rw [refsL, List.length_map]; omega
    refine append_L (s := ⟨h5, _, _, _, _⟩) F5 (news_sub N5 (mv1 (d := (d, o)))) (off_cons (Nat.ne_of_gt hDC) (off_cons hID (off_app offD' (off_snoc' oD1 hdD)))) hlr fun h6 F6 N6 => ?_
    have er : refsL tps ++ [Value.ref d] = refsL (tps ++ [(d, o)]) := by simp [refsL]
    rw [er] at N6
    refine ⟨h6, _, oI3, oC4, m4, tps ++ [(d, o)], rfl, F6, news_sub N6 swap12, ?_, hC4, by simp [hlen], off_snoc' oC1 hdC, off_snoc' oD1 hdD, off_snoc' oI1 hdI, ?_⟩
    · exact st_keep W hst5 (hfp' (tps ++ [(d, o)])) F5 F6 (news_tl (news_tl (news_sub N5 (mv1 (d := (d, o)))))) (news_tl (news_tl N6))
    · intro j z hz
      by_cases hj : j < tps.length
      · rw [List.getElem?_append_left hj] at hz; exact hG j z hz
      · have hjl : j = tps.length := by
          have := (List.getElem?_eq_some_iff.mp hz).1
          rw [List.length_append, List.length_singleton] at this; omega
        subst hjl
        simp at hz
        subst hz
        rw [hlen]; exact hy
  · rintro s' ⟨h, tk, oI, oC, mC, tps, rfl, F2, N2, hst2, hC2, hlen, oC1, oD1, oI1, hG⟩
    refine W.done ⟨h, _, _, _, _⟩ _ _ hst2 fun h3 tk3 hk3 => ⟨rfl, ?_⟩
    obtain ⟨gI, gIL, gI0⟩ := N2 _ (.tail _ (.tail _ (.head _)))
    have F3 : Fr h₀ L h3 m := fr_but F2 hk3 (nin1 (Ne.symm gIL)) (all1 gI0)
    have N3 : News h₀ L h3 ((C, oC) :: (D, LCg.lst (refsL tps)) :: (rest ++ tps)) := news_but (fun p hp => N2 p (by
        rcases List.mem_cons.mp hp with rfl | hp
        · exact .head _
        rcases List.mem_cons.mp hp with rfl | hp
        · exact .tail _ (.head _)
        · exact .tail _ (.tail _ (.tail _ hp)))) hk3 (off_cons (Ne.symm hIC) (off_cons (Ne.symm hID) (off_app off oI1))).nin
    exact ⟨oC, mC, _, F3, N3, hC2, off_cons (Nat.ne_of_lt hDC) (off_app offC' oC1), fun h4 F4 N4 => fin D h4 tk3 tps F4 N4 (off_app offD' oD1) hlen hG⟩
end
section
variable {prog : Program} {w : World} {A : Around} {E : Value → Shared → Prop} {env : Env} {elt ct : Expr} {x : Str} {scope : Scope} {s : Shared} {h₀ : Heap} {L : Addr} {m : Str → Option Value} {cl : List (Str × Addr)} {Q : Value → Shared → Prop} {news : List (Addr × Obj)}
theorem src_listG {l : Addr} {items : Array Value} (G : Nat → Obj → Prop) (hh : A.handled = none) (F : Fr h₀ L s.heap m) (N : News h₀ L s.heap news) (hl : ∃ n, (l, W.listOf items n) ∈ news) (hsz : items.size ≤ sizeLine)
    (he : ∀ I oI g i v C oC D mC tps h tk, i < items.size → items[i]? = some v → Fr h₀ L h m → News h₀ L h ((C, oC) :: (D, LCg.lst (refsL tps)) :: (I, oI) :: (news ++ tps)) → LCg.NsObj oC mC → mC x = some v →
      wpAny (model prog w) A (eval elt (compEnvC scope cl C env)) (GEnd { s with heap := g } h₀ L m C D I ((C, oC) :: (D, LCg.lst (refsL tps)) :: (I, oI) :: (news ++ tps)) (G i)) NoE { s with heap := h, toks := tk })
    (fin : ∀ D h tk tps, Fr h₀ L h m → News h₀ L h ((D, LCg.lst (refsL tps)) :: (news ++ tps)) → Off D (news ++ tps) → tps.length = items.size → (∀ (i : Nat) p, tps[i]? = some p → G i p.2) → Q (.ref D) { s with heap := h, toks := tk }) :
    wpAny (model prog w) A (pyIter (.ref l)) (CSrcG prog w A h₀ L m env elt x scope cl Q) E s := by
  have hll : s.heap.IsList l items := by
    obtain ⟨n, hm⟩ := hl
    exact N.isList hm
  have hlt : @LT.lt Nat _ l s.heap.objs.size := by obtain ⟨o, e, _⟩ := hll; exact Heap.lt_size e
  refine wpAny_pyIter_list hll ?_
  refine ⟨s.heap.objs.size, [s.heap.objs.size, l], items.size, _, _, _, news, G, rfl, Walks.list hh s.heap.objs.size l (Nat.ne_of_lt hlt) items, hsz, ⟨⟨_, Heap.get?_push_size _ rfl, rfl, rfl⟩, hll.push _⟩, fun i h st => let ⟨o, e, _⟩ := st.1; ⟨o, e⟩, ?_, F.push _, News.push F N _ rfl, ?_, ?_, fin⟩
  · intro b hb
    rcases List.mem_cons.mp hb with rfl | hb
    · exact .inl rfl
    rcases List.mem_cons.mp hb with rfl | hb
    · obtain ⟨n, hm⟩ := hl
      exact .inr (.inl ⟨_, hm⟩)
    · cases hb
  · intro b hb
    obtain ⟨p, hp, rfl⟩ := List.mem_map.mp hb
    exact Nat.ne_of_lt (news_lt N p hp)
  · intro i v C oC D mC tps oI h tk hi hP F1 N1 hC hx
    exact he _ oI _ i v C oC D mC tps h tk hi hP F1 N1 hC hx
end
end
/-! RL -/
theorem fresh_RL : True ∧ True := by
  w_top off
  first
    | (walk1; done)
    | exact ⟨trivial, trivial⟩
section
set_option maxRecDepth 100000
set_option maxHeartbeats 4000000
section
variable {w : World} {A : Around} {E : Value → Shared → Prop} {s : Shared} {mean : ExcName → Option Value} {mg mb : Str → Option Value}
local macro_rules | `(tactic| walk_at "eval ListComp") => `(tactic| (k_here; (refine stop_call ?_)))
local macro_rules | `(tactic| walk_at "subscriptTail") => `(tactic| (k_here; (refine stop_call ?_)))
local macro_rules | `(tactic| walk_at "call builtin:sorted") => `(tactic| (k_here; (refine stop_call ?_)))
local macro_rules | `(tactic| walk_at "eval Name") => `(tactic| (k_here; (with_reducible show wpAny _ _ (eval (Expr.Name _ _) (envOfC _ _ _ _ _)) _ _ _); k_dflt (refine name_cell (by rfl) (by rfl) (by rfl) (by decide) (by k_asm) (by k_mem) (by k_asm) ?_)))
theorem sub20 {s : Shared} {Df Dw : Addr} {fo wo o1 o2 o3 : Obj} {r c d i b : Addr × Obj} {tps : List (Addr × Obj)} : ∀ x ∈ dnews s Df Dw fo wo o1 o2 o3 [r], x ∈ c :: d :: i :: b :: (Df, fo) :: (Dw, wo) :: (s.heap.objs.size + 1 + 1 + 1, o3) :: (s.heap.objs.size + 1 + 1, o2) :: (s.heap.objs.size + 1, o1) :: r :: tps := by
  intro x hx
  unfold dnews at hx
  exact .tail _ (.tail _ (.tail _ (.tail _ (List.mem_append_left tps hx))))
theorem tups_of {fx lw : Nat} : ∀ {tps : List (Addr × Obj)} {es : List (Nat × Nat × Nat)}, tps.length = es.length → (∀ (i : Nat) p, tps[i]? = some p → TupO fx lw (es.getD i (0, 0, 0)) p.2) → TupsAre fx lw tps es
  | [], [], _, _ => .nil
  | p :: tps, e :: es, hl, h => .cons (h 0 p rfl) (tups_of (Nat.succ.inj hl) fun i q hq => h (i + 1) q hq)
  | [], _ :: _, hl, _ => by cases hl
  | _ :: _, [], hl, _ => by cases hl
def foundL (few ways : List (Nat × Nat)) (ps : List Nat) : List (Nat × Nat × Nat) := ps.map fun r => (r, getN few r, getN ways r)
theorem rst2 {fa R : Addr} {cd : Value} {fx lw st : Nat} {few ways : List (Nat × Nat)} {ps : List Nat} {kp : Int} {v3 : Option Value} {oR : Obj} {s₁ : Shared} (X : (hd.heap_39 w.params).In s.heap) (T : Top hd.view_39 (looseW hd.view_39 [Str.ofString "_filemode_table"]) mean mg mb s.heap) (hh : A.handled = none) (hlw : 0 < lw)
    (hso : ∀ ns : List Int, ns.Perm (keysOf' fx lw (few.map (·.1))) → ns.Pairwise (· ≤ ·) → ns = keysOf' fx lw ps) (hlen : few.length ≤ 10) (hpl : ps.length ≤ 32) (hf : ∀ r ∈ ps, hasN few r = true) (hw : ∀ r ∈ ps, hasN ways r = true)
    {Q : Flow → Shared → Prop} (hQ : ∀ D h tk tps, Kp s.heap h → News s.heap s.heap.objs.size h ((D, LCg.lst (refsL tps)) :: tps) → TupsAre fx lw tps (foundL few ways ps) → Q (.ret (.ref D)) { s with heap := h, toks := tk })
    (h : Rst PySem.Challenge.rw_pg0089_02.row.prog w s fx lw few ways v3 [(R, oR)] (R1 st kp R) s₁) :
    wpAny (model PySem.Challenge.rw_pg0089_02.row.prog w) A (exec (reachSt 2) (envOfC (Str.ofString "_law_reached") reachScope s.heap.objs.size fa cd)) Q NoE s₁ := by
  revert X; k_fill; intro X
  conv in (reachSt _) => whnf
  conv in reachScope => whnf; zeta
  obtain ⟨Df, Dw, fo, wo, o1, o2, o3, kf, kw, D, h1, tk1, m, rfl, F, N, ⟨⟨t1, hm1⟩, ⟨t2, hm2⟩⟩, hm3⟩ := h
  have hc1 := D.c1
  have hc2 := D.c2
  have hc3 := D.c3
  unfold dnews at N
  (k_steps; try any_goals (first | exact Str.ofString "" | exact (0 : Addr) | exact Value.none))
  all_goals (try k_data)
  unfold Stop
  refine LCG (h₀ := s.heap) (L := s.heap.objs.size) (m := m) (by with_unfolding_all rfl) (by decide) (by rfl) (by decide) (by rfl) ?_
  (k_steps; try any_goals (first | exact Str.ofString "" | exact (0 : Addr) | exact Value.none))
  all_goals (try k_data)
  unfold Stop
  refine sort_few (s := ⟨_, _, _, _, _⟩) hh hso D F N hlen fun B h2 tk2 vs n F2 N2 hi => ?_
  have hvl := ints_length hi
  unfold dnews at N2
  rw [keysOf, List.length_map] at hvl
  refine src_listG (s := ⟨h2, _, _, _, _⟩) (items := vs.toArray) (fun i o => TupO fx lw ((foundL few ways ps).getD i (0, 0, 0)) o) hh F2 N2 ⟨n, at0⟩ (by rw [List.size_toArray, PySem.sizeLine_eq]; omega) ?_ ?_
  · intro I oI g' i v C oC D' mC tps h tk hil hv F3 N3 hC hx
    have hi' : i < ps.length := by rw [List.size_toArray] at hil; omega
    have hx2 : (keysOf fx lw ps)[i]? = some (keyN fx lw (ps.getD i 0)) := by
      rw [keysOf, List.getElem?_map, List.getD_eq_getElem?_getD, List.getElem?_eq_getElem hi']; rfl
    obtain ⟨t, hv2⟩ := hi.get i _ hx2
    have hve : v = .int (keyN fx lw (ps.getD i 0)) t := by
      rw [List.getElem?_toArray, hv2] at hv
      exact (Option.some.inj hv).symm
    subst hve
    have hmem : ps.getD i 0 ∈ ps := by rw [List.getD_eq_getElem?_getD, List.getElem?_eq_getElem hi']; exact List.getElem_mem hi'
    have hfi := hf _ hmem
    have hwi := hw _ hmem
    simp only [List.cons_append, List.nil_append] at N3
    have ef : (foundL few ways ps).getD i (0, 0, 0) = (ps.getD i 0, getN few (ps.getD i 0), getN ways (ps.getD i 0)) := getD_map (e := 0) _ hi'
    rw [ef]
    generalize ps.getD i 0 = r at *
    clear F N F2 N2 hx2 ef hmem hv
    try dsimp only
    (k_steps; try any_goals (first | exact Str.ofString "" | exact (0 : Addr) | exact Value.none))
    all_goals (try k_data)
    unfold Stop
    refine get_few (s := ⟨h, _, _, _, _⟩) D hlw (news_sub N3 sub20) hfi fun t3 => ?_
    try dsimp only
    (k_steps; try any_goals (first | exact Str.ofString "" | exact (0 : Addr) | exact Value.none))
    all_goals (try k_data)
    unfold Stop
    refine get_ways (s := ⟨h, _, _, _, _⟩) D hlw (news_sub N3 sub20) hwi fun t4 => ?_
    try dsimp only
    (k_steps; try any_goals (first | exact Str.ofString "" | exact (0 : Addr) | exact Value.none))
    all_goals (try k_data)
    rename Fr _ _ _ _ => F5
    rename News _ _ _ _ => N5
    rename _ ∧ _ => l5
    refine ⟨_, _, _, _, rfl, rfl, F5, N5, Nat.ne_of_gt l5.1, Nat.ne_of_gt l5.2.1, Nat.ne_of_gt l5.2.2.1, ?_⟩
    exact ⟨_, _, _, _, rfl⟩
  · intro D' h tk tps F3 N3 off hlen' hG
    have hlt : tps.length = (foundL few ways ps).length := by
      rw [hlen', List.size_toArray, hvl]; unfold foundL; rw [List.length_map]
    clear F N F2 N2
    refine hQ D' h tk tps F3.keep (news_sub N3 (sub_cons at0 fun x hx => .tail _ (List.mem_append_right _ hx))) (tups_of hlt hG)
end
end
/-! RN -/
theorem fresh_RN : True ∧ True := by
  w_top off
  first
    | (walk1; done)
    | exact ⟨trivial, trivial⟩
section
set_option maxRecDepth 100000
set_option maxHeartbeats 4000000
section
variable {w : World} {A : Around} {E : Value → Shared → Prop} {s : Shared} {mean : ExcName → Option Value} {mg mb : Str → Option Value}
def foundG (g : Nat) : List (Nat × Nat × Nat) := foundL (brun g 7).few (brun g 7).ways (pics g)
/-- what the last step needs of the search's end, its two tables named -/
theorem goal_end {g : Nat} (hg : g ∈ goals) : ∃ few ways ps, (brun g 7).few = few ∧ (brun g 7).ways = ways ∧ foundG g = foundL few ways ps ∧ few.length ≤ 10 ∧ ps.length ≤ 32 ∧
    (∀ (fx lw : Nat) (ns : List Int), ns.Perm (keysOf' fx lw (few.map (·.1))) → ns.Pairwise (· ≤ ·) → ns = keysOf' fx lw ps) ∧ (∀ r ∈ ps, hasN few r = true) ∧ ∀ r ∈ ps, hasN ways r = true := by
  have h1 := List.all_eq_true.mp goal_facts g hg
  rw [Bool.and_eq_true] at h1
  have h2 := List.all_eq_true.mp h1.2 7 (by decide)
  simp only [Bool.and_eq_true, decide_eq_true_eq] at h2
  have h3 : ∀ r ∈ pics g, hasN (brun g 7).few r = true := fun r hr => pics_has hr
  refine ⟨_, _, pics g, rfl, rfl, rfl, h2.1.1.1, pics_len g, fun fx lw ns hp hs => sorted_pics hg hp hs, h3, fun r hr => ?_⟩
  have h4 := (WF.run (of_decide_eq_true h1.1) 7).hk r
  dsimp only at h4
  rw [h4]
  exact h3 r hr
theorem reach_rest {fa : Addr} {cd : Value} {o1 o2 o3 : Obj} {v1 v2 v3 : Option Value} {fx lw g st : Nat} {kp : Int} {s₁ : Shared} (X : (hd.heap_39 w.params).In s.heap) (T : Top hd.view_39 (looseW hd.view_39 [Str.ofString "_filemode_table"]) mean mg mb s.heap) (hh : A.handled = none) (hgd : A.guards = some []) (hdp : A.depth + 9 < recursionLimit)
    (hlw : 0 < lw) (hs9 : st + 5 ≤ 9) (hgo : g ∈ goals) (hok : ∀ ring : List Nat, (∀ p ∈ ring, p < 32) → ∀ c, c < 6 → StepOk fx lw st c kp ring) (hmd : ∀ p, p < 32 → fx + lw * p < 65536)
    (hc1 : o1.data = .cell v1) (hc2 : o2.data = .cell v2) (hc3 : o3.data = .cell v3)
    {Q : Flow → Shared → Prop} (hQ : ∀ D h tk tps, Kp s.heap h → News s.heap s.heap.objs.size h ((D, LCg.lst (refsL tps)) :: tps) → TupsAre fx lw tps (foundG g) → Q (.ret (.ref D)) { s with heap := h, toks := tk })
    (h : Lst s [(s.heap.objs.size + 1 + 1 + 1, o3), (s.heap.objs.size + 1 + 1, o2), (s.heap.objs.size + 1, o1)] (fun m => HasI m (Str.ofString "goal") (keyN fx lw g) ∧ RB st kp m) s₁) :
    wpC (model PySem.Challenge.rw_pg0089_02.row.prog w) A (execs [reachSt 0, reachSt 1, reachSt 2] (envOfC (Str.ofString "_law_reached") reachScope s.heap.objs.size fa cd)) Q NoE s₁ := by
  obtain ⟨few, ways, ps, e1, e2, e3, f1, f2, f3, f4, f5⟩ := goal_end hgo
  rw [e3] at hQ
  refine nextC_mid _ (wpC_of_any (rst0 X T hh hc1 hc2 hc3 h)) fun s2 h2 => ?_
  obtain ⟨R, vs, n, hi, h2⟩ := h2
  refine nextC_mid _ (rst1 X T hh hgd hdp hlw hs9 hgo hok hmd hi h2) fun s3 h3 => ?_
  obtain ⟨R, vs, n, v3, h3⟩ := h3
  rw [e1, e2] at h3
  clear e1 e2 e3
  refine wpC_execs_cons (wpC_of_any (rst2 (ps := ps) X T hh hlw (f3 fx lw) f1 f2 f4 f5 (fun D h tk tps k N tp => ?_) h3))
  exact hQ D h tk tps k N tp
theorem reached_C {fx lw g st : Nat} {kp : Int} {tg ts tk0 : Tok} {Q : Value → Shared → Prop} (X : (hd.heap_39 w.params).In s.heap) (T : Top hd.view_39 (looseW hd.view_39 [Str.ofString "_filemode_table"]) mean mg mb s.heap) (hh : A.handled = none) (hgd : A.guards = some []) (hdp : A.depth + 11 < recursionLimit)
    (hlw : 0 < lw) (hs9 : st + 5 ≤ 9) (hgo : g ∈ goals) (hok : ∀ ring : List Nat, (∀ p ∈ ring, p < 32) → ∀ c, c < 6 → StepOk fx lw st c kp ring) (hmd : ∀ p, p < 32 → fx + lw * p < 65536)
    (hQ : ∀ D h tk tps, Kp s.heap h → News s.heap s.heap.objs.size h ((D, LCg.lst (refsL tps)) :: tps) → TupsAre fx lw tps (foundG g) → Q (.ref D) { s with heap := h, toks := tk }) :
    wpC (model PySem.Challenge.rw_pg0089_02.row.prog w) A (call (.ref 94) [.int (keyN fx lw g) tg, .int (st : Int) ts, .int kp tk0]) Q E s := by
  revert X; k_fill; intro X
  refine' callC_cells2 (binds := [(Str.ofString "goal", .int (keyN fx lw g) tg), (Str.ofString "start", .int (st : Int) ts), (Str.ofString "keep", .int kp tk0)]) X T (Nat.lt_of_le_of_lt (Nat.le_add_right _ _) hdp) ?ho ?hcd ?hb ?hl ?hc ?c1 ?c2 ?c3 ?_
  case ho => k_dflt k_is
  case hcd => k_dflt k_is
  case hb => rfl
  case hl => exact kindsX rfl
  case hc => decide +kernel
  case c1 => rfl
  case c2 => rfl
  case c3 => rfl
  intro h1 tk1 cells F1 N1 Y1 X' T'
  k_cells Y1
  rename Obj.data _ = Data.cell (bindC _ _ _ (Str.ofString "cut")) => d3
  rename Obj.data _ = Data.cell (bindC _ _ _ (Str.ofString "ways")) => d2
  rename Obj.data _ = Data.cell (bindC _ _ _ (Str.ofString "few")) => d1
  refine wpC_as (t' := execs [reachSt 0, reachSt 1, reachSt 2] (envOfC (Str.ofString "_law_reached") reachScope s.heap.objs.size 94 (.ref 93))) (by kernel_rfl) ?_
  refine reach_rest (s := s) X' T' (by exact hh) (by exact hgd) (by simp only [Around.deeper]; omega) hlw hs9 hgo hok hmd d1 d2 d3 (fun D h tk tps k N tp => hQ D h tk tps k N tp) ⟨h1, tk1, _, rfl, F1, N1, ⟨tg, by with_unfolding_all rfl⟩, ⟨ts, by with_unfolding_all rfl⟩, ⟨tk0, by with_unfolding_all rfl⟩⟩
end
end
/-! EQ -/
theorem fresh_EQ : True ∧ True := by
  w_top off
  first
    | (walk1; done)
    | exact ⟨trivial, trivial⟩
section
set_option maxRecDepth 100000
set_option maxHeartbeats 4000000
def datN (fx lw : Nat) (e : Nat × Nat × Nat) : Dat := .tuple [.int ((fx + lw * e.1 : Nat) : Int), .int (e.2.1 : Int), .int (e.2.2 : Int)]
theorem dat_all {fx lw : Nat} {news : List (Addr × Obj)} : ∀ {tps : List (Addr × Obj)} {es : List (Nat × Nat × Nat)}, TupsAre fx lw tps es → (∀ p ∈ tps, p ∈ news) → DatAll news (tps.map fun p => .ref p.1) (es.map (datN fx lw))
  | _, _, .nil, _ => .nil
  | (a, o) :: tps, e :: es, .cons h r, hs => by
    obtain ⟨t1, t2, t3, n, ho⟩ := h
    dsimp only at ho
    subst ho
    rw [List.map_cons, List.map_cons]
    refine .cons ?_ (dat_all r fun p hp => hs p (.tail _ hp))
    exact DatIn.tuple (vs := [_, _, _]) (hs _ (.head _)) (.cons (.int _ _) (.cons (.int _ _) (.cons (.int _ _) .nil)))
theorem dat_ok {fx lw : Nat} {es : List (Nat × Nat × Nat)} : ∀ d ∈ es.map (datN fx lw), kqdOk 8 d = true := by
  intro d hd
  obtain ⟨e, _, rfl⟩ := List.mem_map.mp hd
  rfl
open Classical in
theorem eq_tups {prog : Program} {w : World} {A : Around} {E : Value → Shared → Prop} {s : Shared} {h₀ : Heap} {L a b : Addr} {news tps tps' : List (Addr × Obj)} {fx lw : Nat} {es : List (Nat × Nat × Nat)} {Q : Value → Shared → Prop} (N : News h₀ L s.heap news)
    (ha : (a, LCg.lst (tps.map fun p => .ref p.1)) ∈ news) (h1 : TupsAre fx lw tps es) (s1 : ∀ p ∈ tps, p ∈ news) (hb : (b, LCg.lst (tps'.map fun p => .ref p.1)) ∈ news) (h2 : TupsAre fx lw tps' es) (s2 : ∀ p ∈ tps', p ∈ news)
    (hu : A.units + 64 < cLine) (h : Q (.bool true) s) : wpAny (model prog w) A (compareOp .Eq (.ref a) (.ref b)) Q E s := by
  have h3 := kqd_eq (prog := prog) (w := w) (E := E) (Q := Q) N ha rfl rfl (dat_all h1 s1) (fun _ hp => hp) hb rfl rfl (dat_all h2 s2) (fun _ hp => hp) dat_ok dat_ok hu
  refine h3 ?_
  rw [decide_eq_true rfl]
  exact h
end
/-! RP -/
theorem fresh_RP : True ∧ True := by
  w_top off
  first
    | (walk1; done)
    | exact ⟨trivial, trivial⟩
section
set_option maxRecDepth 100000
set_option maxHeartbeats 4000000
section
variable {M : Model} {A : Around} {E : Value → Shared → Prop} {s : Shared} {env : Env}
theorem fnC3 {pos : Pos} {a : Addr} {o : Obj} {fd : FuncData} {e e' e2 : Expr} {Q : Value → Shared → Prop} (hd : o.data = .func fd) (he : backTo pos (starEach [e, e', e2] env) = [(false, eval e env), (false, eval e' env), (false, eval e2 env)])
    (h : wpC M A (eval e env) (fun v s₁ => wpC M A (eval e' env) (fun v' s₂ => wpC M A (eval e2 env) (fun v2 s₃ => s₃.heap.get? a = some o ∧ wpC M A (call (.ref a) [v, v', v2]) Q E s₃) E s₂) E s₁) E s) : wpC M A (callWith pos (.ref a) [] (backTo pos (starEach [e, e', e2] env)) []) Q E s := by
  rw [he]; exact withC_fn rfl hd (argsC (splC_cons (wpC_mono h (fun _ _ q => splC_cons (wpC_mono q (fun _ _ q => splC_cons (wpC_mono q (fun _ _ q => splC_nil q) fun _ _ x => x)) fun _ _ x => x)) fun _ _ x => x)))
/-- things made since -/
theorem news_over {h₀ h h' : Heap} {L L' : Addr} {m : Str → Option Value} {news news' : List (Addr × Obj)} (F : Fr h₀ L h m) (N : News h₀ L h news) (k : Kp h h') (N' : News h L' h' news') : News h₀ L h' (news' ++ news) := by
  intro p hp
  rcases List.mem_append.mp hp with hp | hp
  · obtain ⟨g, _, g0⟩ := N' p hp
    exact news_more2 F (News.nil : News h₀ L h []) k g0 g _ (.head _)
  · exact news_kp N k p hp
end
section
variable {w : World} {A : Around} {E : Value → Shared → Prop} {s : Shared} {mean : ExcName → Option Value} {mg mb : Str → Option Value}
local macro_rules | `(tactic| walk_at "compareOp Eq ref ref") => `(tactic| (k_here; (refine stop_call ?_)))
theorem lst11 {fa K Z : Addr} {cd : Value} {md st la lw fx ay g : Nat} {tps : List (Addr × Obj)} {s₁ : Shared} (X : (hd.heap_39 w.params).In s.heap) (T : Top hd.view_39 (looseW hd.view_39 [Str.ofString "_filemode_table"]) mean mg mb s.heap) (hh : A.handled = none) (hgd : A.guards = some []) (hdp : A.depth + 11 < recursionLimit) (hu : A.units + 64 < cLine)
    (hlw : 0 < lw ∧ lw ≤ 16) (hs9 : st + 5 ≤ 9) (hgo : g ∈ goals) (hok : ∀ ring : List Nat, (∀ p ∈ ring, p < 32) → ∀ c, c < 6 → StepOk fx lw st c (4095 - 31 * (lw : Int)) ring) (hmd : ∀ p, p < 32 → fx + lw * p < 65536)
    (htp : TupsAre fx lw tps (foundG g))
    (h : Lst s ((K, LCg.lst (refsOf tps)) :: tps) (N9 md st la lw fx Z ay (fx + lw * g) K) s₁) :
    wpC (model PySem.Challenge.rw_pg0089_02.row.prog w) A (exec (lawSt 11) (envOf (Str.ofString "law") lawScope s.heap.objs.size fa cd))
      (fun f s' => f = .ret (.bool true) ∧ ∃ h' tk, s' = { s with heap := h', toks := tk } ∧ Kp s.heap h') NoE s₁ := by
  revert X; k_fill; intro X
  conv in (lawSt _) => whnf
  conv in lawScope => whnf; zeta
  obtain ⟨h1, tk1, m, rfl, F, N, ⟨⟨⟨⟨⟨⟨⟨⟨t1, hm1⟩, ⟨t2, hm2⟩, ⟨t3, hm3⟩⟩, ⟨t4, hm4⟩⟩, ⟨t5, hm5⟩⟩, hm6⟩, ⟨t7, hm7⟩⟩, ⟨t8, hm8⟩⟩, hm9⟩⟩ := h
  obtain ⟨ob, fd, hob, hfd⟩ : ∃ o fd, (hd.heap_39 w.params).lookup 94 = some o ∧ o.data = .func fd := ⟨_, _, rfl, rfl⟩
  refine wpC_Return_some (wpC_Compare1 (Call_C ?_))
  k_steps
  refine fnC3 (o := ob) hfd (by rfl) (wpC_of_any ?_)
  k_steps
  refine wpC_of_any ?_
  k_steps
  refine wpC_of_any ?_
  k_steps
  · exact F.keep _ _ (X _ _ hob)
  refine reached_C (s := ⟨_, _, _, _, _⟩) (Frag.In.keeps X F.keep) (Top.keeps T F.keep) hh hgd hdp hlw.1 hs9 hgo hok hmd fun D h tk tps' k N' tp => ?_
  have F2 := fr_kp F k
  have N2 := news_over F N k N'
  clear F N N'
  refine wpC_of_any ?_
  dsimp only
  k_steps
  unfold Stop
  refine eq_tups (s := ⟨_, _, _, _, _⟩) N2 (.head _) tp (fun x hx => .tail _ (List.mem_append_left _ hx)) (List.mem_append_right _ (.head _)) htp (fun x hx => List.mem_append_right _ (.tail _ hx)) hu ?_
  exact ⟨rfl, h, _, rfl, F2.keep⟩
end
end
/-! RQ -/
theorem fresh_RQ : True ∧ True := by
  w_top off
  first
    | (walk1; done)
    | exact ⟨trivial, trivial⟩
section
set_option maxRecDepth 100000
set_option maxHeartbeats 4000000
theorem pop_le : ∀ r, r < 32 → pop5 r ≤ 5 := by decide
theorem goal_in {a l : Nat} (ha : a ≤ 5) (hl : l < 2) : goalP a l ∈ goals := by
  have h : ∀ a, a < 6 → ∀ l, l < 2 → goalP a l ∈ goals := by decide
  exact h a (by omega) l hl
theorem told_found {a l : Nat} (ha : a ≤ 5) (hl : l < 2) : toldTo a l 32 = foundG (goalP a l) := by
  have h1 := List.all_eq_true.mp found_told a (List.mem_range.mpr (by omega))
  have h2 := eq_of_beq (List.all_eq_true.mp h1 l (List.mem_range.mpr hl))
  have h3 : foundN a l = foundG (goalP a l) := by unfold foundN foundG foundL pics endOf; exact Eq.refl _
  rw [← h3, h2]
  unfold toldTo toldN; exact Eq.refl _
theorem steps_ok {md st lw : Nat} (hst : st + 5 ≤ 9) (hmd : md < 65536) (hlw : lw = 2 ^ (9 - st - 5)) :
    (∀ ring : List Nat, (∀ p ∈ ring, p < 32) → ∀ c, c < 6 → StepOk (md - lw * (md / lw % 32)) lw st c (4095 - 31 * (lw : Int)) ring) ∧ ∀ p, p < 32 → (md - lw * (md / lw % 32)) + lw * p < 65536 := by
  subst hlw
  obtain ⟨h1, h2, h3⟩ := fx_facts (sz := 5) (.inl rfl) hst hmd
  refine ⟨fun ring hr c hc p hp => ?_, fun p hp => (h3 p hp).1⟩
  have e : (4095 : Int) - 31 * ((2 ^ (9 - st - 5) : Nat) : Int) = 4095 - ((2 ^ (9 - st - 5) : Nat) : Int) * (2 ^ 5 - 1) := by
    rw [Int.mul_comm]; rfl
  rw [e]
  exact flip_eq hst hc (hr p hp) h2 (h3 p (hr p hp)).1 (h3 p (hr p hp)).2 rfl
section
variable {w : World} {A : Around} {E : Value → Shared → Prop} {s : Shared} {mean : ExcName → Option Value} {mg mb : Str → Option Value}
theorem law_rest {fa D2 : Addr} {cd : Value} {nn : Nat} {ys : List Value} {ds : List Int} {s₁ : Shared} (X : (hd.heap_39 w.params).In s.heap) (T : Top hd.view_39 (looseW hd.view_39 [Str.ofString "_filemode_table"]) mean mg mb s.heap) (hh : A.handled = none) (hgd : A.guards = some []) (hdp : A.depth + 11 < recursionLimit) (hu : A.units + 64 < cLine)
    (hi : IntsAre ys ds) (hlen : ds.length ≤ 2) (hd : ∀ d ∈ ds, 0 ≤ d ∧ d < 1000000)
    (h : Lst s [(D2, W.listOf ys.toArray nn)] (fun m => m (Str.ofString "drawn") = some (.ref D2)) s₁) :
    wpC (model PySem.Challenge.rw_pg0089_02.row.prog w) A (execs [lawSt 1, lawSt 2, lawSt 3, lawSt 4, lawSt 5, lawSt 6, lawSt 7, lawSt 8, lawSt 9, lawSt 10, lawSt 11] (envOf (Str.ofString "law") lawScope s.heap.objs.size fa cd))
      (fun f s' => f = .ret (.bool true) ∧ ∃ h' tk, s' = { s with heap := h', toks := tk } ∧ Kp s.heap h') NoE s₁ := by
  have hdp9 : A.depth + 9 < recursionLimit := Nat.lt_of_le_of_lt (by omega) hdp
  refine nextC_mid _ (wpC_of_any (lst1 X T hi hlen hd h)) fun s2 h2 => ?_
  obtain ⟨D, x, y, tx, ty, n', hx, hy, h2⟩ := h2
  refine nextC_mid _ (wpC_of_any (lst2 X T h2)) fun s3 h3 => ?_
  refine nextC_mid _ (wpC_of_any (lst3 X T hh h3)) fun s4 h4 => ?_
  have hst : y % 5 + 5 ≤ 9 := by omega
  have hla : y / 5 % 2 < 2 := Nat.mod_lt _ (by decide)
  have hmd : (x + 17833) % 65536 < 65536 := Nat.mod_lt _ (by decide)
  generalize (x + 17833) % 65536 = md at *
  generalize y % 5 = st at *
  generalize y / 5 % 2 = la at *
  refine nextC_mid _ (wpC_of_any (lst4 X T h4)) fun s5 h5 => ?_
  obtain ⟨hl1, hl2, hl3⟩ := low_le (sz := 5) (.inl rfl) hst
  have elw := low_eq hst
  generalize 512 / 2 ^ (st + 5) = lw at *
  rw [← elw] at hl2 hl3
  obtain ⟨hok, hmd2⟩ := steps_ok hst hmd elw
  have hle : lw * (md / lw % 32) ≤ md := by
    have := (fx_facts (sz := 5) (.inl rfl) hst hmd).1
    rw [← elw] at this
    exact this
  refine nextC_mid _ (wpC_of_any (lst5 X T ⟨hl2, hl3⟩ hle h5)) fun s6 h6 => ?_
  generalize md - lw * (md / lw % 32) = fx at *
  refine nextC_mid _ (wpC_of_any (lst6 X T hh h6)) fun s7 h7 => ?_
  obtain ⟨Z, vs, n, hz, h7⟩ := h7
  refine nextC_mid _ (wpC_of_any (lst7 X T ⟨hl2, hl3⟩ hz h7)) fun s8 h8 => ?_
  have hay : pop5 (md / lw % 32) ≤ 5 := pop_le _ (Nat.mod_lt _ (by decide))
  generalize pop5 (md / lw % 32) = ay at *
  refine nextC_mid _ (wpC_of_any (lst8 X T ⟨hl2, hl3⟩ hla hay h8)) fun s9 h9 => ?_
  refine nextC_mid _ (wpC_of_any (lst9 X T h9)) fun s10 h10 => ?_
  obtain ⟨K, hKZ, h10⟩ := h10
  refine nextC_mid _ (wpC_of_any (lst10 X T hh hdp9 hz hl3 hKZ h10)) fun s11 h11 => ?_
  obtain ⟨tps, htp, offK, h11⟩ := h11
  rw [told_found hay hla] at htp
  exact wpC_execs_cons (wpC_mono (lst11 X T hh hgd hdp hu ⟨hl2, hl3⟩ hst (goal_in hay hla) hok hmd2 htp h11) (fun f s' hf => by
    obtain ⟨rfl, hf⟩ := hf
    exact ⟨rfl, hf⟩) fun _ _ e => e)
end
end
/-! L2 -/
theorem fresh_L2 : True ∧ True := by
  w_top off
  first
    | (walk1; done)
    | exact ⟨trivial, trivial⟩
section
set_option maxRecDepth 100000
set_option maxHeartbeats 4000000
theorem walk2_start : PySem.Challenge.rw_pg0089_02.Holds := by
  refine hd ?_
  k_fill
  intro w s₀ s₁ mg mb G Y fa o pm cd doc dV kV ho hd hcd hD hmg hg args vals as hpre hlay hrd hwl hlo
  have KX := kIn_of Y
  have X := (Ground.X G).1
  have V := (Ground.X G).2
  refine Ground.open G ?_
  intro T B D TE TW
  try (refine guard_noD D (by decide +kernel) ?_; clear D)
  obtain ⟨_, _, M⟩ := bmod_of_top T
  have TA := at_of_top T
  try (obtain ⟨_, _, he, B0⟩ := based_of_top T rfl hmg ho hd; have he' : cd = _ := he; subst he'; clear he)
  clear hmg
  wrow_args hpre hlay hrd hwl hlo
  rename_i ns hsh hlay0 hL1 hr1 hl2 as4 as3 l vs as0 hl hra hwell hreads hints hrr hlen htriv
  have good : ∀ h' tk, Kp s₁.heap h' → GoodWG PySem.Challenge.rw_pg0089_02.row.claim (classAt s₀.heap) (ExcName.means s₀.heap) [ofPy (PyData.list (List.map PyData.int ns))] s₁ (Except.ok (Flow.ret (.bool true))) { s₁ with heap := h', toks := tk } := by
    intro h' tk hk
    refine GoodW.toG ⟨.inl ⟨_, .bool true, [], rfl, raisesW_false ?_, .bool _, ?_, unshared_nil⟩, hk, rfl, hg⟩
    · wrow_none_raised
    · wrow_post
  have hdV : dV = .none := hD.pos.elim (·.2) fun y => absurd rfl y.1
  have hkV : kV = .none := hD.noKw
  subst hdV hkV
  clear G Y hD B TE TW TA B0 V X
  have X := KX
  clear KX M hsh hlay0 hL1 hr1 hl2 hra hwell hreads hrr htriv
  dsimp only [docDef] at hd hcd
  refine callC_cells (binds := [(Str.ofString "script", .ref l)]) T.nolimit (by decide) ho hd hcd rfl ?hk ?hn ?_
  case hk => exact kindsX rfl
  case hn => decide +kernel
  intro h1 tk1 cells F1 N1 Y1
  clear ho hd hcd Y1
  replace N1 : News s₁.heap s₁.heap.objs.size h1 [] := News.nil
  change Fr s₁.heap s₁.heap.objs.size h1 (fun y => if y = Str.ofString "script" then some (Value.ref l) else none) at F1
  refine nextC_stop ?_
  k_steps
  all_goals (try k_data)
  rename IntsAre _ (List.map _ _) => hi3
  rename Fr _ _ _ _ => F3
  rename News _ _ _ _ => N3
  dsimp only [Stop]
  refine wpC_mono (law_rest (s := s₁) X T rfl rfl (show callerA.depth + 1 + 11 < recursionLimit by decide) (show callerA.units + 3 + 64 < cLine by decide) hi3 ?_ ?_ ⟨_, _, _, rfl, F3, news_sub N3 (sub1 (.head _)), by with_unfolding_all rfl⟩) (fun f s' hf => ?_) fun _ _ e => e
  · rw [List.length_map, List.length_take]; omega
  · intro d hd
    obtain ⟨n, _, rfl⟩ := List.mem_map.mp hd
    show 0 ≤ n.fmod (10 ^ Int.toNat 6) ∧ n.fmod (10 ^ Int.toNat 6) < 1000000
    rw [show (10 : Int) ^ Int.toNat 6 = 1000000 from rfl]
    rw [Int.fmod_eq_emod_of_nonneg _ (by decide)]
    omega
  · obtain ⟨rfl, h', tk, rfl, hk⟩ := hf
    exact good h' tk hk
end
end Mine
set_option maxRecDepth 100000 in
set_option maxHeartbeats 8000000 in
theorem PySem.Challenge.cw_pg0089_02_holds : PySem.Challenge.rw_pg0089_02.Holds :=
  Mine.walk2_start
