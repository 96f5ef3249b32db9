import PyProof.Rows.All
import Wide.All
import OpenK.AllK
import Wide.FinOn
import Lean
import PySem.Challenge.RW_zo0004_01
set_option Elab.async false
section
open PySem PySem.W PyProof.Rows PySem.Spec PySem.Calls
namespace Mine
/-- the codes that bytearray's look at the stack asks for -/
def badIds : List String := ["bytearray.__contains__", "bytearray.__mod__", "bytearray.__rmod__", "_struct.pack_into.held", "bytearray.find.held"] ++ Builtin.Bytes.decodersThatHold
def okC : Code → Bool
  | .builtin id _ => !badIds.contains id
  | _ => true
def Clear (Γ : PySem.Ctx) : Prop := okC Γ.code = true ∧ ∀ x ∈ Γ.below, okC x.1 = true
theorem Clear.enter {Γ : PySem.Ctx} (h : Clear Γ) {c : Code} (hc : okC c = true) (hd : Option Value) (p : Pos) : Clear (Γ.enter c hd p) :=
  ⟨hc, fun x hx => by
    rcases List.mem_cons.mp hx with rfl | hx
    · exact h.1
    · exact h.2 x hx⟩
theorem Clear.goto {Γ : PySem.Ctx} (h : Clear Γ) {c : Code} (hc : okC c = true) : Clear (Γ.goto c) := ⟨hc, h.2⟩

/-- as wpAny, for the stacks that bear no such code -/
def wpI {α : Type} (M : Model) (A : Around) (t : Sem α) (Q : α → Shared → Prop) (E : Value → Shared → Prop) (s : Shared) : Prop :=
  ∀ Γ p, Γ.In A → Clear Γ → Sem.wp M Γ t (fun a _ s' => Q a s') (fun e _ s' => E e s') p s
def codeI (M : Model) (A : Around) (c : Code) (R : Result → Shared → Prop) (s : Shared) : Prop :=
  ∀ Γ p, Γ.code = c → Γ.Below A → Clear Γ → wpCode M Γ R p s
section
variable {α β : Type} {M : Model} {A : Around} {E : Value → Shared → Prop} {s : Shared}
theorem wpI_any {t : Sem α} {Q : α → Shared → Prop} (h : wpAny M A t Q E s) : wpI M A t Q E s := fun Γ p hΓ _ => h Γ p hΓ
theorem codeI_any {c : Code} {R : Result → Shared → Prop} (h : codeAny M A c R s) : codeI M A c R s := fun Γ p hc hΓ _ => h Γ p hc hΓ
theorem wpI_pure {a : α} {Q : α → Shared → Prop} (h : Q a s) : wpI M A (pure a) Q E s := fun _ _ _ _ => h
theorem wpI_mono {t : Sem α} {Q Q' : α → Shared → Prop} {E' : Value → Shared → Prop} (h : wpI M A t Q E s) (hQ : ∀ a s, Q a s → Q' a s) (hE : ∀ e s, E e s → E' e s) : wpI M A t Q' E' s :=
  fun Γ p hΓ hc => Sem.wp_mono M Γ t (fun a _ s => hQ a s) (fun e _ s => hE e s) p s (h Γ p hΓ hc)
theorem wpI_bind {m : Sem α} {f : α → Sem β} {Q : β → Shared → Prop} (h : wpI M A m (fun a s' => wpI M A (f a) Q E s') E s) : wpI M A (m >>= f) Q E s := fun Γ p hΓ hc => by
  rw [Sem.wp_bind']
  exact Sem.wp_mono M Γ m (fun a p' s' h' => h' Γ p' hΓ hc) (fun _ _ _ h' => h') p s (h Γ p hΓ hc)
/-- a step that the library knows, then the rest -/
theorem wpI_then {m : Sem α} {f : α → Sem β} {Q : β → Shared → Prop} (h : wpAny M A m (fun a s' => wpI M A (f a) Q E s') E s) : wpI M A (m >>= f) Q E s := wpI_bind (wpI_any h)
theorem wpI_onRaise {m : Sem α} {k : Value → Sem Unit} {Q : α → Shared → Prop} (h : wpI M A m Q (fun e s' => wpAny M A (k e) (fun _ s'' => E e s'') E s') s) : wpI M A (m.onRaise k) Q E s := fun Γ p hΓ hc => by
  rw [Sem.wp_onRaise]
  exact Sem.wp_mono M Γ m (fun _ _ _ h' => h') (fun e p' s' h' => h' Γ p' hΓ) p s (h Γ p hΓ hc)
theorem wpI_holding {vs : List Value} {m : Sem α} {Q : α → Shared → Prop} (h : wpI M A m Q E s) : wpI M A (holding vs m) Q E s :=
  fun Γ p hΓ hc => by rw [Sem.wp_holding]; exact h Γ p hΓ hc
theorem wpI_keep {vs : List Value} {m : Sem α} {Q : α → Shared → Prop} (h : wpI M A m Q E s) : wpI M A (m.keep vs) Q E s :=
  fun Γ p hΓ hc => by rw [Sem.wp_keep]; exact h Γ p hΓ hc
theorem wpI_attempt {m : Sem α} {Q : Except Value α → Shared → Prop} (h : wpI M A m (fun a => Q (.ok a)) (fun e => Q (.error e)) s) : wpI M A m.attempt Q E s := fun Γ p hΓ hc => by
  rw [Sem.wp_attempt]; exact h Γ p hΓ hc
theorem wpI_stack {k : List (Code × Pos) → Sem α} {Q : α → Shared → Prop} (h : ∀ st : List (Code × Pos), (∀ x ∈ st, okC x.1 = true) → wpI M A (k st) Q E s) : wpI M A (stack >>= k) Q E s := fun Γ p hΓ hc => by
  rw [Sem.wp_bind']
  show Sem.wp M Γ (k ((Γ.code, p) :: Γ.below)) _ _ p s
  refine h _ (fun x hx => ?_) Γ p hΓ hc
  rcases List.mem_cons.mp hx with rfl | hx
  · exact hc.1
  · exact hc.2 x hx
theorem wpI_call {f : Value} {pos : List Value} {kw : List (Str × Value)} {Q : Value → Shared → Prop}
    (hc : codeI M A (.call f ⟨pos, kw⟩) (fun r s' => match r with | .ok (.ret v) => Q v s' | .ok _ => False | .error e => E e s') s) : wpI M A (call f pos kw) Q E s := fun Γ p hΓ hcl => by
  show Sem.wp M Γ (runValue (.call f ⟨pos, kw⟩)) _ _ p s
  rw [Sem.wp_runValue]
  exact hc _ p rfl (hΓ.enter _ none p (by intro x; cases x)) (hcl.enter (c := .call f ⟨pos, kw⟩) rfl none p)
theorem codeI_of_tree {c : Code} {R : Result → Shared → Prop} (h : wpI M (A.under c) (M.den c) (fun fin s' => match fin with | .done f => R (.ok f) s' | .again c' => c'.quiet = true ∧ okC c' = true ∧ codeI M A c' R s') (fun e s' => R (.error e) s') s) :
    codeI M A c R s := fun Γ p hc hΓ hcl => by
  rw [wpCode_iff_wp, hc]
  refine Sem.wp_mono M Γ _ (fun fin p' s' h' => ?_) (fun _ _ _ h' => h') p s (h Γ p (hc ▸ hΓ.in) hcl)
  cases fin with
  | done f => exact h'
  | again c' => exact ⟨h'.1, h'.2.2 (Γ.goto c') p' rfl (hΓ.goto c') (hcl.goto h'.2.1)⟩
theorem codeI_mono {c : Code} {R R' : Result → Shared → Prop} (h : codeI M A c R s) (hR : ∀ r s, R r s → R' r s) : codeI M A c R' s :=
  fun Γ p hc hΓ hcl => wpCode_mono hR (h Γ p hc hΓ hcl)
theorem wpI_eq {t t' : Sem α} {Q : α → Shared → Prop} (e : t = t') (h : wpI M A t' Q E s) : wpI M A t Q E s := by rw [e]; exact h
theorem wpI_execs_cons {env : Env} {st : Stmt} {rest : List Stmt} {Q : Flow → Shared → Prop}
    (h : wpI M A (exec st env) (fun f s' => match f with | .next => wpI M A (execs rest env) Q E s' | f => Q f s') E s) : wpI M A (execs (st :: rest) env) Q E s := fun Γ p hΓ hc => by
  rw [execs_cons, Sem.wp_bind']
  refine Sem.wp_mono M Γ _ (fun f p' s' h' => ?_) (fun _ _ _ h' => h') _ _ (h Γ p hΓ hc)
  cases f <;> first | exact h' Γ p' hΓ hc | exact h'
theorem execs_append {env : Env} {l2 : List Stmt} : ∀ {l1 : List Stmt}, execs (l1 ++ l2) env = (execs l1 env >>= fun f => match f with | .next => execs l2 env | f => pure f)
  | [] => by
    rw [show execs [] env = pure .next from rfl, pure_bind]; rfl
  | st :: l1 => by
    rw [List.cons_append, execs_cons, execs_cons, bind_assoc]
    refine congrArg _ (funext fun f => ?_)
    cases f with
    | next => exact execs_append
    | _ => simp
theorem wpI_execs_append {env : Env} {l1 l2 : List Stmt} {Q : Flow → Shared → Prop}
    (h : wpAny M A (execs l1 env) (fun f s' => match f with | .next => wpI M A (execs l2 env) Q E s' | f => Q f s') E s) : wpI M A (execs (l1 ++ l2) env) Q E s := by
  rw [execs_append]
  refine wpI_then (wpAny_mono h (fun f s' h' => ?_) fun _ _ e => e)
  cases f <;> first | exact h' | exact wpI_pure h'
end
end Mine
end
section
open PySem PySem.W PySem.Spec PySem.Calls PyProof.Rows
namespace Mine
section
variable {prog : Program} {w : World}
theorem thread_ends_I {t : Sem Fin} {s : Shared} {R : Result → Shared → Prop} (hreg : s.asleep)
    (h : wpI (model prog w) callerA t (fun fin s' => ∃ f, fin = .done f ∧ (R (.ok f) s' ∧ leftWithCleanup s'.gens = false)) (fun e s' => R (.error e) s' ∧ leftWithCleanup s'.gens = false) s) :
    ∃ n r s' s'', runN (denote table) prog w n s ⟨t, .builtin "claim.caller" {}, default, []⟩ = .halted (outcomeOf r) s' ∧
      schedN (denote table) prog w n (.single s ⟨t, .builtin "claim.caller" {}, default, []⟩) = .halted (outcomeOf r) s' ∧ s'.forget = s''.forget ∧ R r s'' := by
  have hwp : Sem.wp (model prog w) ⟨.builtin "claim.caller" {}, none, none, [], none⟩ t (Sem.finPost (model prog w) ⟨.builtin "claim.caller" {}, none, none, [], none⟩ fun r s' => R r s' ∧ leftWithCleanup s'.gens = false)
      (fun e _ s' => R (.error e) s' ∧ leftWithCleanup s'.gens = false) default s := by
    refine Sem.wp_mono _ _ t (fun fin p' s' h' => ?_) (fun _ _ _ h' => h') default s (h _ default caller_in ⟨by decide, fun x hx => by cases hx⟩)
    obtain ⟨f, hfe, hf⟩ := h'
    subst hfe
    exact hf
  obtain ⟨n, r, s₁, s₂, hs, hn, hfo, hR⟩ := wp_halts_full (M := model prog w) (R := R) hreg hwp
  exact ⟨n, r, s₂, s₁, hn, hs, hfo, hR⟩
end
theorem callFrom_I {c : ClaimW} {tree : List Value → Sem Fin} {w : World} {s : Shared} {free : Addr → Prop} {gens : Prop} {kept : Heap → Prop} (hz : s.asleep) (hgens : s.gens = #[])
    (hspec : ∀ args, c.pre args = true → WData.layableAll args = true →
      ∀ ord : List DictEntry → List DictEntry, (∀ l, (ord l).Perm l) →
      ∃ vs s₁, layAllW c.records (classAt s.heap) w.params ord args s = some (vs, s₁) ∧
        wpI (model c.prog w) callerA (tree vs) (fun fin s' => ∃ f, fin = .done f ∧ (c.Ends s args vs s₁ (.ok f) s' ∧ s'.os = s.os ∧ AllBare s'.gens ∧ kept s'.heap))
          (fun e s' => c.Ends s args vs s₁ (.error e) s' ∧ s'.os = s.os ∧ AllBare s'.gens ∧ kept s'.heap) s₁) :
    c.CallFrom (fun vs => ⟨tree vs, .builtin "claim.caller" {}, default, []⟩) w free gens kept s := by
  intro args hpre hlay ord hord
  obtain ⟨vs, s₁, hlaid, hcode⟩ := hspec args hpre hlay ord hord
  have hal := layAllW_rest _ _ _ hlaid
  obtain ⟨k, r, s', s'', hrun, hsched, hfo, hcase, hos, hkp⟩ := thread_ends_I (prog := c.prog) (w := w) (t := tree vs) (s := s₁)
    (R := fun r s' => c.Ends s args vs s₁ r s' ∧ s'.os = s.os ∧ kept s'.heap)
    (Shared.asleep_of_life hal.2.2.2 hz)
    (wpI_mono hcode (by
      rintro fin s' ⟨f, e, h1, h2, h3, h4⟩
      exact ⟨f, e, ⟨h1, h2, h4⟩, leftWithCleanup_false_of_bare h3⟩) (by
      rintro e s' ⟨h1, h2, h3, h4⟩
      exact ⟨⟨h1, h2, h4⟩, leftWithCleanup_false_of_bare h3⟩))
  obtain ⟨eh, _, _, eo, _⟩ := Shared.forget_eq hfo
  have hcase := hcase.congr eh
  have hkp : kept s'.heap := by first | exact eh ▸ hkp | (rw [eh] at hkp; exact hkp) | (rw [← eh] at hkp; exact hkp)
  rw [← eo] at hos
  have hlife : s'.heap.life = s.heap.life := (runN_life _ _ _ hrun).trans hal.2.2.2
  refine ⟨vs, s₁, hlaid, k, _, s', hsched, ?_, (fun _ i x hx => by rw [hgens] at hx; simp at hx), hkp, by rw [hlife], Shared.rest_eq hos⟩
  rcases hcase with ⟨v, rfl, d1, d2, d3, d4, d5⟩ | ⟨e, ob, cls, rfl, d1, d2, d3, d4, d5⟩
  · exact .inl ⟨v, rfl, d1, d2, d3, fun b o y _ => d4 b o y, d5⟩
  · exact .inr ⟨e, ob, cls, rfl, d1, d2, d3, d4, fun b o y _ => d5 b o y⟩

theorem open_anyI {r : RowW} {run : Value → List Value → Sem Value} {tree : List Value → Sem Fin} {q : Program} {loose defs kps : List Str} {writes : Bool} {Xt : Shared → Bool} {XP : (Str → Option Value) → Heap → Prop} {α : Type} {Yf : Shared → α} {Ya : World → α} {YP : World → Heap → Prop} {N : Nat}
    (left : LeftO r.prog q loose Xt Yf Ya N) (hY : ∀ w s, Yf s = Ya w → YP w s.heap) (hYk : ∀ w h h', YP w h → (∀ b o, h.get? b = some o → h'.get? b = some o) → YP w h') (hX : ∀ s, Xt s = true → XP (s.heap.nsMap mainGlobals) s.heap) (hXk : ∀ mg h h', XP mg h → (∀ b o, h.get? b = some o → h'.get? b = some o) → XP mg h')
    (hRf : ∀ s, Xt s = true → RecFacts r.records s.heap) (hwr : (!writes || r.records.isEmpty) = true) (ok : (chainsOk q && opensWell r.prog && (frees r && r.within.isEmpty)) = true) (hb : r.prog.bare) (hw : r.promised)
    (ht : ∀ vs (w : World) (s : Shared) mg f (Q : Fin → Shared → Prop) (E : Value → Shared → Prop), s.heap.Ns mainGlobals mg → mg r.name = some f → wpI (model r.prog w) callerA (run f vs) (fun v s' => Q (.done (.ret v)) s') E s → wpI (model r.prog w) callerA (tree vs) Q E s)
    (pin : ∀ w s, s.heap.isNs mainGlobals = true → Ground q loose [] XP w s (s.heap.nsMap mainGlobals) (s.heap.nsMap builtinsNs) s.heap → ∀ n ∈ defs, isTheDefsW r.prog s.heap n)
    (call : ∀ (w : World) (s₀ s₁ : Shared) (mg mb : Str → Option Value), Ground q loose r.records XP w s₀ mg mb s₁.heap → YP w s₁.heap → ∀ (args : List WData) (vs : List Value) (as : List Addr),
      r.claim.pre args = true → WData.layableAll args = true → Laid r.records w s₀ s₁ args vs as → sysModules < s₀.heap.objs.size → ∃ f, mg r.name = some f ∧
        wpI (model r.prog w) callerA (run f vs) (fun v s' => GoodWG r.claim (classAt s₀.heap) (ExcName.means s₀.heap) args s₁ (.ok (.ret v)) s')
          (fun e s' => GoodWG r.claim (classAt s₀.heap) (ExcName.means s₀.heap) args s₁ (.error e) s') s₁) : r.claim.HoldsOpenBy (fun vs => ⟨tree vs, .builtin "claim.caller" {}, default, []⟩) defs kps writes := by
  obtain ⟨ok, k5⟩ := Bool.and_eq_true_iff.mp ok
  obtain ⟨hch, o1⟩ := Bool.and_eq_true_iff.mp ok
  obtain ⟨k5, k6⟩ := Bool.and_eq_true_iff.mp k5
  obtain ⟨hsame, hu, ha, hap, hm⟩ := frees_parts k5
  refine ⟨⟨hb, o1, by show r.makers.map _ = []; rw [hm]; rfl⟩, hw.witness, fun w => ⟨(left.behind hX hch w).1, fun s' hs' => ?_⟩⟩
  obtain ⟨s₀, hf, hg0, s, hT, hz, hgens, hg, G00, y⟩ := (left.behind (XP := fun mg h => XP mg h ∧ RecFacts r.records h) (fun s hs => ⟨hX s hs, hRf s hs⟩) hch w).2 s' hs'
  have G0 : Ground q loose [] XP w s (s.heap.nsMap mainGlobals) (s.heap.nsMap builtinsNs) s.heap := ⟨G00.T, G00.B, G00.D, G00.TE, G00.TD, G00.W, G00.X.1, G00.cls, G00.has, G00.apart, G00.once, G00.K⟩
  have RF := G00.X.2
  have hT' := hT
  refine ⟨s₀, hf, hg0, s, hT, pin w s hg G0, RF.1, RF.2.1, ?_⟩
  have hgens : s.gens = #[] := Array.eq_empty_of_size_eq_zero (beq_iff_eq.mp hgens)
  have G : Ground q loose r.records XP w s _ _ s.heap := RF.ground G0
  refine callFrom_I (c := r.claim) hz hgens fun args hpre hlay ord hord => ?_
  obtain ⟨⟨vs, s₁⟩, hlaid⟩ := Option.isSome_iff_exists.mp (layAllW_isSome (P := w.params) (ord := ord) G.has args r.args s (pre_splitW hpre).1)
  have keeps := layAllW_keeps _ _ _ hlaid
  have hal := layAllW_rest _ _ _ hlaid
  obtain ⟨as, hrd, hin, hold⟩ := reads_layAllW hord _ _ _ hlaid hlay s₁.heap (fun _ _ e => e)
  have L : Laid r.records w s s₁ args vs as := ⟨⟨ord, hord, hlaid⟩, hrd, hin, hold, keeps, hal.1.trans hgens, hal.2.2.1⟩
  have G₁ := G.keeps hXk keeps
  obtain ⟨f, hf, h⟩ := call w s s₁ _ _ G₁ (hYk _ _ _ (hY w s y) keeps) args vs as hpre hlay L G.low
  have hi := ident_freeW hu ha hap
  have hwi : r.claim.within = [] := List.isEmpty_iff.mp k6
  exact ⟨vs, s₁, hlaid, ht vs w s₁ _ f _ _ G₁.T.g hf (wpI_mono h (fun v s' g => ⟨_, rfl, have z := g.laid (c := r.claim) hsame hwi hi L; ⟨z.1, z.2.1, z.2.2, fun q => ⟨namesKept_of hT' hg kps keeps g.2.1.old, noTable hwr q⟩⟩⟩) fun e s' g => have z := g.laid (c := r.claim) hsame hwi hi L; ⟨z.1, z.2.1, z.2.2, fun q => ⟨namesKept_of hT' hg kps keeps g.2.1.old, noTable hwr q⟩⟩)⟩

abbrev WalkI (q : Program) (loose : List Str) (XP : (Str → Option Value) → Heap → Prop) (YP : World → Heap → Prop) (r : RowW) (d : DefRec) (kwd : List (Str × Expr)) (run : Value → List Value → Sem Value) : Prop :=
  ∀ (w : World) (s₀ s₁ : Shared) (mg mb : Str → Option Value), Ground q loose r.records XP w s₀ mg mb s₁.heap → YP w s₁.heap → ∀ (a : Addr) (o : Obj) (pm cd doc dV kV : Value), s₁.heap.get? a = some o →
    o.data = .func { docDef d.name d.params d.body d.scope pm cd doc with defaults := dV, kwdefaults := kV } → s₁.heap.CodeRec cd d.name → Dflts mg s₁.heap d.params kwd dV kV → mg d.name = some (.ref a) → s₁.gens = #[] →
    ∀ (args : List WData) (vals : List Value) (as : List Addr), r.claim.pre args = true → WData.layableAll args = true → ReadsAllW r.records (classAt s₀.heap) s₁.heap vals args as → WellAll w.params s₁.heap vals args → (∀ a ∈ as, (a == sysModules) = false) →
      wpI (model r.prog w) callerA (run (.ref a) vals) (fun v s' => GoodWG r.claim (classAt s₀.heap) (ExcName.means s₀.heap) args s₁ (.ok (.ret v)) s')
        (fun e s' => GoodWG r.claim (classAt s₀.heap) (ExcName.means s₀.heap) args s₁ (.error e) s') s₁

theorem PySem.W.holds_open {r : OpenRow} {q : Program} {loose : List Str} {Xt : Shared → Bool} {XP : (Str → Option Value) → Heap → Prop} {α : Type} {Yf : Shared → α} {Ya : World → α} {YP : World → Heap → Prop} {d : DefRec} {kwd : List (Str × Expr)} {N : Nat}
    (left : LeftO r.prog q loose Xt Yf Ya N) (hY : ∀ w s, Yf s = Ya w → YP w s.heap) (hYk : ∀ w h h', YP w h → (∀ b o, h.get? b = some o → h'.get? b = some o) → YP w h')
    (hX : ∀ s, Xt s = true → XP (s.heap.nsMap mainGlobals) s.heap) (hXk : ∀ mg h h', XP mg h → (∀ b o, h.get? b = some o → h'.get? b = some o) → XP mg h')
    (hdef : defOf q r.name = some (d, kwd)) (hp : r.prog.theDef r.name = some (d.params, d.body, d.scope)) (hk : kwWritten? d.params.kwonlyargs d.params.kw_defaults = some kwd) (hRf : ∀ s, Xt s = true → RecFacts r.records s.heap) (hwr : (!r.writes || r.records.isEmpty) = true)
    (k1 : r.wellSaid = true) (ok : (chainsOk q && opensWell r.prog && (frees r.toRowW && r.within.isEmpty)) = true) (hb : r.prog.bare) (hw : r.toRowW.promised)
    (call : WalkI q loose XP YP r.toRowW d kwd fun f vs => PySem.call f vs) : r.Holds := by
  refine ⟨k1, hw, open_anyI (r := r.toRowW) (run := fun f vs => PySem.call f vs) (tree := fun vs => do match ← nsGet mainNs r.name with
      | some f => do ret (← PySem.call f vs)
      | none => unsupported "claim.caller:no-such-global") left hY hYk hX hXk hRf hwr ok hb hw
    (fun vs w s mg f Q E hg hf h => wpI_then (wpAny_nsGet hg (by rw [hf]; exact wpI_bind (wpI_mono h (fun _ _ x => wpI_pure x) fun _ _ x => x))))
    (fun w s hg G n hn => ?_) fun w s₀ s₁ mg mb G Y args vs as hpre hlay L low => ?_⟩
  · obtain rfl : n = r.name := by split at hn <;> simp_all
    exact pinned_of_view hg G hdef hp hk
  · obtain ⟨a, o, pm, cd, doc, dV, kV, h1, h2, h3, h4, h5⟩ := G.fn hdef
    exact ⟨.ref a, h1, call w s₀ s₁ mg mb G Y a o pm cd doc dV kV h2 h3 h4 h5 (defOf_name hdef ▸ h1) L.gens args vs as hpre hlay L.reads L.well (L.low low)⟩
end Mine
end
section
open PySem PySem.W PyProof.Rows
namespace Mine
set_option maxRecDepth 100000 in
set_option maxHeartbeats 8000000 in
open_top hd for PySem.Challenge.rw_zo0004_01
end Mine
end
section
open PySem PySem.W PySem.Spec PySem.Calls PyProof.Rows
namespace Mine
noncomputable abbrev KK (w : World) : Frag := hd.heap_39 w.params
noncomputable abbrev VW : Program := hd.view_39
noncomputable abbrev LS : List Str := looseW hd.view_39 [Str.ofString "UTC_ZONES", Str.ofString "TIMEZONE_RE", Str.ofString "Flags"]
noncomputable abbrev PG : Program := PySem.Challenge.rw_zo0004_01.row.prog
abbrev ar (dp un : Nat) (fr : Option (List Env)) (gd : Option (List Code)) : Around := { handled := none, depth := dp, frames := fr, guards := gd, units := un }
/-- a goal that the walk leaves alone -/
def Hold (P : Prop) : Prop := P
theorem hold_in {P : Prop} (h : Hold P) : P := h
abbrev Kp (h h' : Heap) : Prop := ∀ b o, h.get? b = some o → h'.get? b = some o

section
variable {prog : Program} {w : World} {A : Around} {R : Result → Shared → Prop} {s : Shared} {K : Frag} {p : Program} {loose : List Str} {mean : ExcName → Option Value} {mg mb : Str → Option Value}

/-- a call of a written def without cells: the callee's frame upon the heap as it stands -/
theorem enterP {name qual : Str} {params : Arguments} {body : List Stmt} {scope : Scope} {dV kV doc pm cdv ct oc : Value} {an od : Option Addr} {osl : Array (Option Value)} {f : Addr} {args : Args} {binds : List (Str × Value)}
    (X : K.In s.heap) (T : Top p loose mean mg mb s.heap)
    (ho : K.lookup f = some ⟨oc, od, .func (fnOf name qual params body scope dV kV doc pm an cdv ct), osl⟩) (hcd : codeIn K cdv qual = true) (hroom : A.depth < recursionLimit)
    (hbind : BindsTo s (fnOf name qual params body scope dV kV doc pm an cdv ct) args binds) (hloc : ∀ y ∈ binds, scope.names.lookup y.1 = some .local)
    (h : ∀ L' h₁, L' = s.heap.objs.size → Fr s.heap L' h₁ (fun y => binds.reverse.lookup y) →
      wpAny (model prog w) (A.deeper (envOf qual scope L' f cdv)) (execs body (envOf qual scope L' f cdv))
        (fun fl s' => R (.ok (.ret (match fl with | .ret v => v | _ => .none))) s') (fun _ _ => False)
        { s with heap := h₁, toks := s.toks + binds.length })
    (hco : scope.isCoroutine = false) (hgen : scope.isGenerator = false) (hk : scope.kind = .function)
    (hcell : ∀ x ∈ scope.names, x.2 ≠ .cell) : codeAny (model prog w) A (.call (.ref f) args) R s :=
  codeAny_call_def (fd := fnOf name qual params body scope dV kV doc pm an cdv ct) (body := body) (binds := binds) hroom (X _ _ ho) rfl T.nolimit (codeRec_of X hcd) rfl hbind hcell hloc
    (fun h₁ hns hk₁ => wpAny_mono (h _ h₁ rfl ⟨hns, hk₁, Nat.le_refl _⟩) (fun _ _ x => x) (fun _ _ x => x.elim)) hco hgen hk

/-- a call of a written def with cells -/
theorem enterC {name qual : Str} {params : Arguments} {body : List Stmt} {scope : Scope} {dV kV doc pm cdv ct oc : Value} {an od : Option Addr} {osl : Array (Option Value)} {f : Addr} {args : Args} {binds : List (Str × Value)}
    (X : K.In s.heap) (T : Top p loose mean mg mb s.heap)
    (ho : K.lookup f = some ⟨oc, od, .func (fnOf name qual params body scope dV kV doc pm an cdv ct), osl⟩) (hcd : codeIn K cdv qual = true) (hroom : A.depth < recursionLimit)
    (hbind : BindsTo s (fnOf name qual params body scope dV kV doc pm an cdv ct) args binds)
    (hkind : (binds.all fun y => scope.names.lookup y.1 == some .local || scope.names.lookup y.1 == some .cell) = true)
    (hnd : ((cellsFrom 0 scope.names []).map (·.1)).Nodup)
    (h : ∀ L' h₁ tk cells, L' = s.heap.objs.size → Fr s.heap L' h₁ (bindL (envOfC qual scope L' f cdv).kindOf binds fun _ => none) → News s.heap L' h₁ cells →
      CellsAre (bindC (envOfC qual scope L' f cdv).kindOf binds fun _ => none) (cellsFrom (L' + 1) scope.names []) cells →
      wpAny (model prog w) (A.deeper (envOfC qual scope L' f cdv)) (execs body (envOfC qual scope L' f cdv))
        (fun fl s' => R (.ok (.ret (match fl with | .ret v => v | _ => .none))) s') (fun _ _ => False)
        { s with heap := h₁, toks := tk })
    (hco : scope.isCoroutine = false) (hgen : scope.isGenerator = false) (hk : scope.kind = .function) : codeAny (model prog w) A (.call (.ref f) args) R s := by
  refine codeAny_call_function (fd := fnOf name qual params body scope dV kV doc pm an cdv ct) hroom (X _ _ ho) rfl hco hgen rfl (codeRec_of X hcd) (hbind _ _ _ _ ?_)
  refine wpAny_newFunctionEnv_cells hk (kindsX hkind _) fun env' he s' x => ?_
  subst he
  refine ⟨T.nolimit.keeps x.toInCall.keep, codeAny_func ?_⟩
  obtain ⟨h₁, tk, rfl, _⟩ := x.done
  have hk₁ := x.toInCall.keep
  obtain ⟨cells, NC, Y⟩ := Cl.news (h₀ := s.heap) (Nat.le_refl _) fun n c hm => ⟨x.cell n c (lookup_of_mem_nodup (cellsFrom_names scope.names 0 (s.heap.objs.size + 1) [] [] rfl ▸ hnd) hm), x.above n c hm⟩
  exact wpAny_mono (h s.heap.objs.size h₁ tk cells rfl ⟨x.toInCall.ns, hk₁, Nat.le_refl _⟩ NC Y) (fun _ _ y => y) fun _ _ y => y.elim
end

/-- a contract: the call of the def at f with the arguments vs hands back a value that R tells, and all that stood stands -/
def Ct (n : Nat) (f : Addr) (vs : List Value) (R : Value → Heap → Heap → Prop) : Prop :=
  ∀ (w : World) (mean : ExcName → Option Value) (mg mb : Str → Option Value) (dp un : Nat) (fr : Option (List Env)) (gd : Option (List Code)) (s : Shared) (Q E : Value → Shared → Prop),
    (KK w).In s.heap → Top VW LS mean mg mb s.heap → dp + n < recursionLimit → un + 500 + 10 * n < cLine →
    (∀ r h' tk', R r s.heap h' → Kp s.heap h' → Q r { s with heap := h', toks := tk' }) →
    wpAny (model PG w) (ar dp un fr gd) (call (.ref f) vs) Q E s
/-- the answer is a new object that P tells -/
abbrev Gives (P : Obj → Prop) (r : Value) (h h' : Heap) : Prop := ∃ x o, r = .ref x ∧ h.get? x = none ∧ h'.get? x = some o ∧ P o

theorem news_keeps {h₀ h h' : Heap} {L : Addr} {news : List (Addr × Obj)} (N : News h₀ L h news) (k : Kp h h') : News h₀ L h' news :=
  fun p hp => ⟨k _ _ (N p hp).1, (N p hp).2⟩
theorem fr_keeps {h₀ h h' : Heap} {L : Addr} {m : Str → Option Value} (F : Fr h₀ L h m) (k : Kp h h') : Fr h₀ L h' m :=
  ⟨F.ns.keeps k, fun b o e => k _ _ (F.keep b o e), F.above⟩
theorem fr_keep {h₀ h : Heap} {L : Addr} {m : Str → Option Value} (F : Fr h₀ L h m) : Kp h₀ h := F.keep
theorem news_add {h₀ h h' : Heap} {L x : Addr} {o : Obj} {m : Str → Option Value} {news : List (Addr × Obj)} (F : Fr h₀ L h m) (N : News h₀ L h' news) (hx : h.get? x = none) (ho : h'.get? x = some o) :
    News h₀ L h' ((x, o) :: news) := fun p hp => by
  rcases List.mem_cons.mp hp with rfl | hp
  · refine ⟨ho, fun e => ?_, ?_⟩
    · obtain ⟨oL, _, _, hL, _⟩ := F.ns
      subst e
      rw [hL] at hx
      cases hx
    · cases q : h₀.get? x with
      | none => rfl
      | some o' => rw [F.keep _ _ q] at hx; cases hx
  · exact N p hp
theorem news_ne {h₀ h : Heap} {L x : Addr} {news : List (Addr × Obj)} (N : News h₀ L h news) (hx : h.get? x = none) : ∀ p ∈ news, p.1 ≠ x :=
  fun p hp e => by
    have := (N p hp).1
    rw [e, hx] at this
    cases this
theorem fr_above {h₀ h : Heap} {L : Addr} {m : Str → Option Value} (F : Fr h₀ L h m) : h₀.objs.size ≤ h.objs.size := Nat.le_trans F.above (Nat.le_of_lt F.ns.lt)

section
variable {n : Nat} {f : Addr} {vs : List Value} {R : Value → Heap → Heap → Prop} {P : Obj → Prop} {w : World} {mean : ExcName → Option Value} {mg mb : Str → Option Value} {dp un : Nat} {fr : Option (List Env)} {gd : Option (List Code)} {s : Shared} {Q E : Value → Shared → Prop}
    {h₀ : Heap} {L : Addr} {m : Str → Option Value} {news : List (Addr × Obj)}
theorem Ct.use (C : Ct n f vs R) (F : Fr h₀ L s.heap m) (X : (hd.heap_39 w.params).In h₀) (N : News h₀ L s.heap news)
    (T : Top hd.view_39 (looseW hd.view_39 [Str.ofString "UTC_ZONES", Str.ofString "TIMEZONE_RE", Str.ofString "Flags"]) mean mg mb h₀) (hd : dp + n < recursionLimit) (hu : un + 500 + 10 * n < cLine)
    (h : ∀ r h' tk', R r s.heap h' → Fr h₀ L h' m → News h₀ L h' news → Q r { s with heap := h', toks := tk' }) :
    wpAny (model PySem.Challenge.rw_zo0004_01.row.prog w) (ar dp un fr gd) (call (.ref f) vs) Q E s :=
  C w mean mg mb dp un fr gd s Q E (X.keeps F.keep) (T.keeps F.keep) hd hu fun r h' tk' hR k => h r h' tk' hR (fr_keeps F k) (news_keeps N k)
theorem Ct.useO (C : Ct n f vs (Gives P)) (F : Fr h₀ L s.heap m) (X : (hd.heap_39 w.params).In h₀) (N : News h₀ L s.heap news)
    (T : Top hd.view_39 (looseW hd.view_39 [Str.ofString "UTC_ZONES", Str.ofString "TIMEZONE_RE", Str.ofString "Flags"]) mean mg mb h₀) (hd : dp + n < recursionLimit) (hu : un + 500 + 10 * n < cLine)
    (h : ∀ x o h' tk', P o → Fr h₀ L h' m → News h₀ L h' ((x, o) :: news) → (∀ p ∈ news, p.1 ≠ x) → Q (.ref x) { s with heap := h', toks := tk' }) :
    wpAny (model PySem.Challenge.rw_zo0004_01.row.prog w) (ar dp un fr gd) (call (.ref f) vs) Q E s :=
  C w mean mg mb dp un fr gd s Q E (X.keeps F.keep) (T.keeps F.keep) hd hu fun r h' tk' hR k => by
    obtain ⟨x, o, rfl, hx, ho, hP⟩ := hR
    exact h x o h' tk' hP (fr_keeps F k) (news_add F (news_keeps N k) hx ho) (news_ne N hx)
end
end Mine
end
section
open PySem PySem.W PySem.Spec PySem.Calls PyProof.Rows
namespace Mine
section
variable {prog : Program} {w : World} {A : Around} {R : Result → Shared → Prop} {s : Shared} {K : Frag} {p : Program} {loose : List Str} {mean : ExcName → Option Value} {mg mb : Str → Option Value}
theorem codeI_func {body : List Stmt} {env : Env} (h : wpI (model prog w) (A.deeper env) (execs body env) (fun f s' => R (.ok (.ret (match f with | .ret v => v | _ => .none))) s') (fun _ _ => False) s) :
    codeI (model prog w) A (.func body env) R s := by
  refine codeI_of_tree ?_
  show wpI _ (A.deeper env) (do point; match ← (execs body env).onRaise (leaving env) with | .ret v => ret v | _ => ret .none) _ _ s
  refine wpI_then (wpAny_point (wpI_bind (wpI_onRaise (wpI_mono h (fun f s' h' => ?_) fun _ _ h' => h'.elim))))
  cases f <;> exact wpI_pure h'
theorem codeI_call_function {a : Addr} {args : Args} {o : Obj} {fd : FuncData} {body : List Stmt} (hroom : A.depth < recursionLimit) (ho : s.heap.get? a = some o)
    (hd' : o.data = .func fd) (hco : fd.scope.isCoroutine = false) (hgen : fd.scope.isGenerator = false) (hbody : fd.body = .stmts body) (hcd : s.heap.CodeRec fd.code fd.qualname)
    (h : wpAny (model prog w) A.in1 (bindArgs fd args) (fun binds s₁ =>
      wpAny (model prog w) A.in1 (newFunctionEnv fd.scope fd.globals fd.closure binds (fd.qualname ++ ".<locals>.") (some a) fd.code none fd.builtins)
        (fun env s₂ => s₂.heap.NoLimit ∧ codeI (model prog w) A (.func body env) R s₂) (fun e s' => R (.error e) s') s₁) (fun e s' => R (.error e) s') s) :
    codeI (model prog w) A (.call (.ref a) args) R s := by
  refine codeI_of_tree ?_
  show wpI _ A.in1 (callAny (.ref a) args) _ _ s
  simp only [callAny]
  refine wpI_then (wpAny_load ho ?_)
  obtain ⟨c, oc, vs, tq, hc, hoc, hdc, hq⟩ := hcd
  simp only [hd', callFunction, hco, hgen, hbody, hc]
  rw [hc] at h
  refine wpI_any (wpAny_bind (m := field (.ref c) 1) (wpAny_field hoc hdc hq (wpAny_bind (wpAny_pure ?_))))
  exact wpAny_bind (wpAny_mono h (fun binds s₁ h₁ => wpAny_bind (wpAny_mono h₁ (fun env s₂ h₂ => wpAny_bind (wpAny_enterFrame h₂.1 hroom
    (wpAny_pure (And.intro rfl (And.intro rfl h₂.2))))) fun _ _ h' => h')) fun _ _ h' => h')

theorem enterPI {name qual : Str} {params : Arguments} {body : List Stmt} {scope : Scope} {dV kV doc pm cdv ct oc : Value} {an od : Option Addr} {osl : Array (Option Value)} {f : Addr} {args : Args} {binds : List (Str × Value)}
    (X : K.In s.heap) (T : Top p loose mean mg mb s.heap)
    (ho : K.lookup f = some ⟨oc, od, .func (fnOf name qual params body scope dV kV doc pm an cdv ct), osl⟩) (hcd : codeIn K cdv qual = true) (hroom : A.depth < recursionLimit)
    (hbind : BindsTo s (fnOf name qual params body scope dV kV doc pm an cdv ct) args binds) (hloc : ∀ y ∈ binds, scope.names.lookup y.1 = some .local)
    (h : ∀ L' h₁, L' = s.heap.objs.size → Fr s.heap L' h₁ (fun y => binds.reverse.lookup y) →
      wpI (model prog w) (A.deeper (envOf qual scope L' f cdv)) (execs body (envOf qual scope L' f cdv))
        (fun fl s' => R (.ok (.ret (match fl with | .ret v => v | _ => .none))) s') (fun _ _ => False)
        { s with heap := h₁, toks := s.toks + binds.length })
    (hco : scope.isCoroutine = false) (hgen : scope.isGenerator = false) (hk : scope.kind = .function)
    (hcell : ∀ x ∈ scope.names, x.2 ≠ .cell) : codeI (model prog w) A (.call (.ref f) args) R s := by
  refine codeI_call_function (fd := fnOf name qual params body scope dV kV doc pm an cdv ct) hroom (X _ _ ho) rfl hco hgen rfl (codeRec_of X hcd) (hbind _ _ _ _ ?_)
  refine wpAny_newFunctionEnv hcell hloc (fun h₀ hns₀ hsb₀ => ⟨T.nolimit.fresh _ hsb₀, codeI_func (h _ h₀ rfl ⟨hns₀, fun b o e => ?_, Nat.le_refl _⟩)⟩) hk
  exact hsb₀.extBut b o (Nat.ne_of_lt (Heap.lt_size e)) (Heap.get?_push_of_some _ e)

theorem enterCI {name qual : Str} {params : Arguments} {body : List Stmt} {scope : Scope} {dV kV doc pm cdv ct oc : Value} {an od : Option Addr} {osl : Array (Option Value)} {f : Addr} {args : Args} {binds : List (Str × Value)}
    (X : K.In s.heap) (T : Top p loose mean mg mb s.heap)
    (ho : K.lookup f = some ⟨oc, od, .func (fnOf name qual params body scope dV kV doc pm an cdv ct), osl⟩) (hcd : codeIn K cdv qual = true) (hroom : A.depth < recursionLimit)
    (hbind : BindsTo s (fnOf name qual params body scope dV kV doc pm an cdv ct) args binds)
    (hkind : (binds.all fun y => scope.names.lookup y.1 == some .local || scope.names.lookup y.1 == some .cell) = true)
    (hnd : ((cellsFrom 0 scope.names []).map (·.1)).Nodup)
    (h : ∀ L' h₁ tk cells, L' = s.heap.objs.size → Fr s.heap L' h₁ (bindL (envOfC qual scope L' f cdv).kindOf binds fun _ => none) → News s.heap L' h₁ cells →
      CellsAre (bindC (envOfC qual scope L' f cdv).kindOf binds fun _ => none) (cellsFrom (L' + 1) scope.names []) cells →
      wpI (model prog w) (A.deeper (envOfC qual scope L' f cdv)) (execs body (envOfC qual scope L' f cdv))
        (fun fl s' => R (.ok (.ret (match fl with | .ret v => v | _ => .none))) s') (fun _ _ => False)
        { s with heap := h₁, toks := tk })
    (hco : scope.isCoroutine = false) (hgen : scope.isGenerator = false) (hk : scope.kind = .function) : codeI (model prog w) A (.call (.ref f) args) R s := by
  refine codeI_call_function (fd := fnOf name qual params body scope dV kV doc pm an cdv ct) hroom (X _ _ ho) rfl hco hgen rfl (codeRec_of X hcd) (hbind _ _ _ _ ?_)
  refine wpAny_newFunctionEnv_cells hk (kindsX hkind _) fun env' he s' x => ?_
  subst he
  refine ⟨T.nolimit.keeps x.toInCall.keep, codeI_func ?_⟩
  obtain ⟨h₁, tk, rfl, _⟩ := x.done
  have hk₁ := x.toInCall.keep
  obtain ⟨cells, NC, Y⟩ := Cl.news (h₀ := s.heap) (Nat.le_refl _) fun n c hm => ⟨x.cell n c (lookup_of_mem_nodup (cellsFrom_names scope.names 0 (s.heap.objs.size + 1) [] [] rfl ▸ hnd) hm), x.above n c hm⟩
  exact h s.heap.objs.size h₁ tk cells rfl ⟨x.toInCall.ns, hk₁, Nat.le_refl _⟩ NC Y
end
/-- a contract for clear stacks -/
def CtI (n : Nat) (f : Addr) (vs : List Value) (R : Value → Heap → Heap → Prop) : Prop :=
  ∀ (w : World) (mean : ExcName → Option Value) (mg mb : Str → Option Value) (dp un : Nat) (fr : Option (List Env)) (gd : Option (List Code)) (s : Shared) (Q E : Value → Shared → Prop),
    (KK w).In s.heap → Top VW LS mean mg mb s.heap → dp + n < recursionLimit → un + 500 + 10 * n < cLine →
    (∀ r h' tk', R r s.heap h' → Kp s.heap h' → Q r { s with heap := h', toks := tk' }) →
    wpI (model PG w) (ar dp un fr gd) (call (.ref f) vs) Q E s
end Mine
end
section
open PySem PySem.W PySem.Spec PySem.Calls PyProof.Rows
namespace Mine
section
variable {M : Model} {A : Around} {E : Value → Shared → Prop} {s : Shared} {env : Env}
theorem wpI_Assign_Name {x pos' value pos} {Q : Flow → Shared → Prop}
    (h : wpI M A (eval value env) (fun v s₁ => wpAny M A (storeName env x v) (fun _ => Q .next) E s₁) E s)
    (hs : swapsWith value (some (.Name x pos')) pos.line env = pure false := by rfl) :
    wpI M A (exec (.Assign [.Name x pos'] value pos) env) Q E s := fun Γ p hΓ hc => by
  simp only [exec_Assign_Name env x pos' value pos hs, Sem.wp_bind', Sem.wp_cmd_standAt, Sem.wp_bindName, Sem.wp_pure']
  exact Sem.wp_mono M Γ _ (fun v _ s₁ h₁ => h₁ Γ _ hΓ) (fun _ _ _ h' => h') _ _ (h Γ _ hΓ hc)
theorem wpI_Call_Name {id : Str} {p pos : Pos} {args : List Expr} {keywords : List Keyword} {Q : Value → Shared → Prop}
    (h : wpAny M A (eval (.Name id p) env) (fun f s₁ => wpI M A (callWith pos f [] (backTo pos (starEach args env)) (backToKw pos (keywordEach keywords env))) Q E s₁) E s) :
    wpI M A (eval (.Call (.Name id p) args keywords pos) env) Q E s := by
  rw [arm_eval_Call_Name']
  exact wpI_then h
theorem wpI_spliced1 {x : Sem Value} {Q : List Value → Shared → Prop} (h : wpI M A x (fun v s₁ => Q [v] s₁) E s) : wpI M A (spliced [(false, x)]) Q E s := by
  rw [spliced]
  refine wpI_bind (wpI_mono h (fun v s₁ h₁ => ?_) fun _ _ x => x)
  simp only [Bool.false_eq_true, if_false]
  exact wpI_bind (wpI_pure (wpI_bind (wpI_holding (wpI_any (spliced_nil (wpI_pure h₁))))))
theorem wpI_spliced2 {x y : Sem Value} {Q : List Value → Shared → Prop} (h : wpI M A x (fun v s₁ => wpAny M A y (fun u s₂ => Q [v, u] s₂) E s₁) E s) : wpI M A (spliced [(false, x), (false, y)]) Q E s := by
  rw [spliced]
  refine wpI_bind (wpI_mono h (fun v s₁ h₁ => ?_) fun _ _ x => x)
  simp only [Bool.false_eq_true, if_false]
  exact wpI_bind (wpI_pure (wpI_bind (wpI_holding (wpI_any (spliced_cons (wpAny_mono h₁ (fun u s₂ h₂ => spliced_nil (wpI_pure h₂)) fun _ _ x => x))))))
theorem wpI_evalArgs {f : Value} {x : Sem Value} {rest : List (Bool × Sem Value)} {Q : Args → Shared → Prop}
    (h : wpI M A (spliced ((false, x) :: rest)) (fun vs s' => Q ⟨vs, []⟩ s') E s) : wpI M A (evalArgs f true ((false, x) :: rest) []) Q E s := by
  unfold evalArgs
  show wpI M A (spliced ((false, x) :: rest) >>= _) Q E s
  refine wpI_bind (wpI_mono h (fun vs s' h' => ?_) fun _ _ x => x)
  refine wpI_holding ?_
  exact wpI_bind (wpI_pure (wpI_bind (wpI_pure (wpI_pure h'))))
theorem wpI_callWith_type {pos : Pos} {T : String} {first : List Value} {args : List (Bool × Sem Value)} {Q : Value → Shared → Prop} (hplain : args.any (·.1) = false)
    (h : wpI M A (evalArgs (.type T) true args []) (fun a s₁ => wpI M A (call (.type T) (first ++ a.pos) a.kw) Q E s₁) E s) :
    wpI M A (callWith pos (.type T) first args []) Q E s := by
  unfold callWith
  refine wpI_bind (wpI_holding (wpI_mono h (fun a s₁ h₁ => wpI_then (wpAny_standAt ?_)) fun _ _ x => x))
  simp only [hplain, List.any_nil, Bool.or_false]
  refine wpI_bind (wpI_pure ?_)
  exact wpI_bind (wpI_mono h₁ (fun r s₂ hr => wpI_any (wpAny_bind (wpAny_holding (wpAny_point (wpAny_pure hr))))) fun _ _ x => x)
theorem wpI_callWith_function {pos : Pos} {a : Addr} {o : Obj} {fd : FuncData} {first : List Value} {args : List (Bool × Sem Value)} {Q : Value → Shared → Prop}
    (h : wpI M A (evalArgs (.ref a) true args []) (fun x s₁ => (s₁.heap.get? a = some o ∧ o.data = .func fd) ∧ wpI M A (call (.ref a) (first ++ x.pos) x.kw) Q E s₁) E s) :
    wpI M A (callWith pos (.ref a) first args []) Q E s := by
  unfold callWith
  refine wpI_bind (wpI_holding (wpI_mono h (fun x s₁ h₁ => wpI_then (wpAny_standAt ?_)) fun _ _ x => x))
  have tail : ∀ {t : Sem Value}, wpI M A t Q E s₁ → wpI M A (t >>= fun r => holding [r] point >>= fun _ => pure r) Q E s₁ :=
    fun ht => wpI_bind (wpI_mono ht (fun r s₂ hr => wpI_any (wpAny_bind (wpAny_holding (wpAny_point (wpAny_pure hr))))) fun _ _ x => x)
  cases hs : args.any (·.1) <;> simp only [List.any_nil, Bool.or_false] <;>
    refine wpI_then (m := keeperOf (.ref a)) ?_ <;> unfold keeperOf <;>
    refine wpAny_bind (wpAny_load h₁.1.1 ?_) <;> rw [h₁.1.2] <;> refine wpAny_pure ?_
  · dsimp only
    split
    · exact tail h₁.2
    · exact tail (by unfold callMarked; exact wpI_keep h₁.2)
  · exact tail (by unfold callMarked; exact wpI_keep h₁.2)
theorem wpI_callWith_type1 {pos : Pos} {T : String} {e : Expr} {Q : Value → Shared → Prop} (hs : backTo pos (starEach [e] env) = [(false, eval e env)])
    (h : wpAny M A (eval e env) (fun v s₁ => wpI M A (call (.type T) [v] []) Q E s₁) E s) :
    wpI M A (callWith pos (.type T) [] (backTo pos (starEach [e] env)) (backToKw pos (keywordEach [] env))) Q E s := by
  rw [hs]
  refine wpI_callWith_type rfl (wpI_evalArgs (wpI_spliced1 (wpI_any h)))
theorem wpI_callWith_fn2 {pos : Pos} {a : Addr} {o : Obj} {fd : FuncData} {e e' : Expr} {Q : Value → Shared → Prop} (hs : backTo pos (starEach [e, e'] env) = [(false, eval e env), (false, eval e' env)])
    (h : wpI M A (eval e env) (fun v s₁ => wpAny M A (eval e' env) (fun u s₂ => (s₂.heap.get? a = some o ∧ o.data = .func fd) ∧ wpI M A (call (.ref a) [v, u] []) Q E s₂) E s₁) E s) :
    wpI M A (callWith pos (.ref a) [] (backTo pos (starEach [e, e'] env)) (backToKw pos (keywordEach [] env))) Q E s := by
  rw [hs]
  refine wpI_callWith_function (wpI_evalArgs (wpI_spliced2 h))
end
end Mine
end
section
open PySem PySem.W PyProof.Rows PySem.Spec PySem.Calls
namespace Mine
/-- an element's end, left alone by the library's lines -/
def ElEnd (h₀ : Heap) (L : Addr) (m : Str → Option Value) (s₁ : Shared) (I : Addr) (oI : Obj) (C : Addr) (oC : Obj) (D : Addr) (oD : Obj) (S : List (Addr × Obj) → Prop) (news : List (Addr × Obj)) (R : Value → Prop) (y : Value) (s₂ : Shared) : Prop :=
  LCg.CompEnd h₀ L m s₁ I oI C oC D oD S (fun y news' => news' = news ∧ R y) y s₂
theorem ElEnd.intro {h₀ : Heap} {L I C D : Addr} {m : Str → Option Value} {s₁ : Shared} {oI oC oD : Obj} {S : List (Addr × Obj) → Prop} {news : List (Addr × Obj)} {R : Value → Prop} {y : Value} {h' : Heap} {tk : Nat} {all : List (Addr × Obj)}
    (F : Fr h₀ L h' m) (N : News h₀ L h' all) (sub : ∀ p ∈ (I, oI) :: (C, oC) :: (D, oD) :: news, p ∈ all) (off : LCg.Off3 I C D news) (hS : S news) (r : R y) :
    ElEnd h₀ L m s₁ I oI C oC D oD S news R y { s₁ with heap := h', toks := tk } := LCg.CompEnd.intro F N news sub off hS ⟨rfl, r⟩

section
variable {prog : Program} {w : World} {A : Around} {E : Value → Shared → Prop} {s : Shared} {h₀ : Heap} {L : Addr} {m : Str → Option Value} {env : Env} {elt : Expr} {x : Str} {scope : Scope} {cl : List (Str × Addr)} {S : List (Addr × Obj) → Prop} {P : Nat → Value → Prop} {Fin : List Value → List (Addr × Obj) → Prop} {news : List (Addr × Obj)}
/-- all the turns of a comprehension, by what each gives -/
theorem rest_W {n : Nat} (R : Nat → Value → Prop)
    (turn : ∀ i v I oI C oC D m₂ ys h tk (E' : Value → Shared → Prop), i < n → P i v → LCg.NsObj oC m₂ → m₂ x = some v → Fr h₀ L h m → News h₀ L h ((I, oI) :: (C, oC) :: (D, LCg.lst ys) :: news) → LCg.Off3 I C D news → ((@Ne Nat I C) ∧ (@Ne Nat I D) ∧ (@Ne Nat C D)) → KPfMark →
      wpAny (model prog w) A (eval elt (compEnvC scope cl C env)) (ElEnd h₀ L m { s with heap := h, toks := tk } I oI C oC D (LCg.lst ys) S news (R i)) E' { s with heap := h, toks := tk })
    (fin : ∀ ys : List Value, ys.length = n → (∀ i, i < n → ∃ y, ys[i]? = some y ∧ R i y) → Fin ys news) : LCg.CompRest prog w A h₀ L m env elt x scope cl s S P Fin n 0 [] news := by
  have key : ∀ (j i : Nat) (ys : List Value), i + j = n → ys.length = i → (∀ k, k < i → ∃ y, ys[k]? = some y ∧ R k y) → LCg.CompRest prog w A h₀ L m env elt x scope cl s S P Fin j i ys news := by
    intro j
    induction j with
    | zero =>
      intro i ys hi hl hy
      have e : i = n := by omega
      subst e
      exact LCg.CompRest.zero (fin ys hl hy)
    | succ j ih =>
      intro i ys hi hl hy
      refine LCg.CompRest.succ ?_
      intro v I oI C oC D m₂ h tk E' hv hC hx F N off ne
      refine wpAny_mono (turn i v I oI C oC D m₂ ys h tk E' (by omega) hv hC hx F N off ne True.intro) (fun y s₂ hq => ?_) fun _ _ e => e
      obtain ⟨h', tk', nw, e, F', N', off', hS, hn, hR⟩ := hq
      rw [hn] at N' off' hS
      refine ⟨h', tk', news, e, F', N', off', hS, ?_⟩
      refine ih (i + 1) _ (by omega) (by simp [hl]) ?_
      intro k hk
      rcases Nat.lt_or_ge k i with hki | hki
      · obtain ⟨y', h1, h2⟩ := hy k hki
        exact ⟨y', by rw [List.getElem?_append_left (by omega)]; exact h1, h2⟩
      · have : k = i := by omega
        subst this
        exact ⟨y, by rw [List.getElem?_append_right (by omega), hl]; simp, hR⟩
  exact key n 0 [] (by omega) rfl (fun k hk => absurd hk (Nat.not_lt_zero _))

/-- a source of turns: an iterator of any make -/
def CSrc (prog : Program) (w : World) (A : Around) (h₀ : Heap) (L : Addr) (m : Str → Option Value) (env : Env) (elt : Expr) (x : Str) (scope : Scope) (cl : List (Str × Addr)) (Fin : Shared → List Value → List (Addr × Obj) → Prop) (E : Value → Shared → Prop) (xv : Value) (s₁ : Shared) : Prop :=
  wpAny (model prog w) A (pyIter xv) (fun it s₂ => ∃ (I : Addr) (fp : List Addr) (n : Nat) (P : Nat → Value → Prop) (St : Nat → Heap → Prop) (S : List (Addr × Obj) → Prop) (news : List (Addr × Obj)),
    it = .ref I ∧ Walks prog w A I fp [I] n P St ∧ n ≤ sizeLine ∧ (∀ i h, St i h → ∃ o, h.get? I = some o) ∧
    (∀ i h h' o nw, St i h → h.get? I = some o → h'.get? I = some o → (∀ b o, h₀.get? b = some o → h'.get? b = some o) → News h₀ L h' nw → S nw → St i h') ∧
    St 0 s₂.heap ∧ (∀ b ∈ fp, b < s₂.heap.objs.size) ∧ Fr h₀ L s₂.heap m ∧ News h₀ L s₂.heap news ∧ L ≠ I ∧ h₀.get? I = none ∧ (∀ p ∈ news, p.1 ≠ I) ∧ S news ∧
    LCg.CompRest prog w A h₀ L m env elt x scope cl s₂ S P (Fin s₂) n 0 [] news) E s₁

theorem CSrc.range {r : Addr} {a b c : Int} {t u v : Tok} {n : Nat} {s₁ : Shared} {Fin : Shared → List Value → List (Addr × Obj) → Prop}
    (hh : A.handled = none) (F : Fr h₀ L s₁.heap m) (N : News h₀ L s₁.heap news) (hr : IsRange s₁.heap r a b c t u v) (hsm : Builtin.Range.small a b c = true) (hn : Builtin.Range.rangeSize a b c = ((n : Nat) : Int)) (hsz : n ≤ sizeLine)
    (h : ∀ g, LCg.CompRest prog w A h₀ L m env elt x scope cl { s₁ with heap := g } (fun _ => True) (fun i v => ∃ t, v = .int (a + (i : Int) * c) t) (Fin { s₁ with heap := g }) n 0 [] news) :
    CSrc prog w A h₀ L m env elt x scope cl Fin E (.ref r) s₁ := by
  refine wpAny_pyIter_range hr hsm ?_
  refine ⟨_, _, n, _, _, (fun _ => True), news, rfl, Walks.range hh _ a c n, hsz, fun i h st => ⟨_, st⟩, ?_, ?_, ?_, F.keeps fun _ _ e => Heap.get?_push_of_some _ e, N.grown fun _ _ e => Heap.get?_push_of_some _ e, Nat.ne_of_lt F.ns.lt, next_is_new F, (fun p hp => Nat.ne_of_lt (Heap.lt_size (N p hp).1)), trivial, h _⟩
  · intro i h h' o nw st e e' _ _ _
    have st' : h.get? _ = some _ := st
    show h'.get? _ = some _
    rw [e', ← e]; exact st'
  · show IsRangeIter _ _ _ _ _
    rw [hn]; simpa using Heap.get?_push_size _ rfl
  · intro b hb
    rw [List.mem_singleton.mp hb]
    show s₁.heap.objs.size < (s₁.heap.push _).objs.size
    rw [Heap.size_push]; exact Nat.lt_succ_self _

theorem CSrc.tuple {ax : Addr} {vs : List Value} {k : Nat} {s₁ : Shared} {Fin : Shared → List Value → List (Addr × Obj) → Prop}
    (hh : A.handled = none) (F : Fr h₀ L s₁.heap m) (N : News h₀ L s₁.heap news) (hm : (ax, ({ cls := .type "tuple", data := .seq vs.toArray k } : Obj)) ∈ news) (hsz : vs.length ≤ sizeLine)
    (h : ∀ g, LCg.CompRest prog w A h₀ L m env elt x scope cl { s₁ with heap := g } (fun nw => (ax, ({ cls := .type "tuple", data := .seq vs.toArray k } : Obj)) ∈ nw) (fun i v => vs[i]? = some v) (Fin { s₁ with heap := g }) vs.length 0 [] news) :
    CSrc prog w A h₀ L m env elt x scope cl Fin E (.ref ax) s₁ := by
  have ht : s₁.heap.IsTuple ax vs.toArray := ⟨_, (N _ hm).1, rfl, _, rfl⟩
  have hlt : ax < s₁.heap.objs.size := Heap.lt_size (N _ hm).1
  refine wpAny_pyIter_tuple ht ?_
  have up : ∀ b o, s₁.heap.get? b = some o → (s₁.heap.push { cls := .type "tuple_iterator", data := .fields #[.ref ax, .int 0 0] }).get? b = some o := fun b o e => Heap.get?_push_of_some _ e
  have W := Walks.tuple (prog := prog) (w := w) hh s₁.heap.objs.size ax (Nat.ne_of_lt hlt) vs.toArray
  have e1 : vs.toArray.size = vs.length := List.size_toArray ..
  have e2 : (fun (i : Nat) (v : Value) => vs.toArray[i]? = some v) = fun i v => vs[i]? = some v := by funext i v; simp
  rw [e1, e2] at W
  refine ⟨_, _, vs.length, _, _, _, news, rfl, W, hsz, (fun i h st => by obtain ⟨o, e, _⟩ := st.1; exact ⟨o, e⟩), ?_, ⟨⟨_, Heap.get?_push_size _ rfl, rfl, rfl⟩, ht.at fun o e => up _ _ e⟩, ?_, F.keeps up, N.grown up, Nat.ne_of_lt F.ns.lt, next_is_new F, (fun p hp => Nat.ne_of_lt (Heap.lt_size (N p hp).1)), hm, h _⟩
  · intro i h h' o nw st e e' _ N' hS
    refine ⟨?_, ⟨_, (N' _ hS).1, rfl, _, rfl⟩⟩
    obtain ⟨o', q, r⟩ := st.1
    rw [e] at q; cases q
    exact ⟨o, e', r⟩
  · intro b hb
    show b < (s₁.heap.push _).objs.size
    rw [Heap.size_push]
    rcases List.mem_cons.mp hb with rfl | hb
    · exact Nat.lt_succ_self _
    · rw [List.mem_singleton.mp hb]; exact Nat.lt_succ_of_lt hlt

theorem ListComp_W {iter : Expr} {px : Pos} {pos : Pos} {Q : Value → Shared → Prop} (_F₀ : Fr h₀ L s.heap m)
    (hclos : closureFor scope env = pure cl) (hcell : ∀ y ∈ scope.names, y.2 ≠ .cell) (hkind : scope.kind = .function)
    (hnames : ∀ y ∈ scope.names, y.2 = .local → scope.names.lookup y.1 = some .local) (hx : scope.names.lookup x = some .local)
    (h : wpAny (model prog w) A (eval iter env) (CSrc prog w A h₀ L m env elt x scope cl (fun s₂ => LCg.FinE h₀ L m s₂ Q) E) E s)
    (hs : ∀ x, foldedSetIterable iter env x = pure x := by intro _; rfl) :
    wpAny (model prog w) A (eval (.ListComp elt [⟨.Name x px, iter, [], 0⟩] scope pos) env) Q E s := by
  rw [eval_ListComp]
  refine wpAny_comprehension_free (use := none) rfl hs hclos hkind hnames (wpAny_mono h (fun xv s₁ h₁ => ?_) fun _ _ e => e)
  refine wpAny_mono h₁ (fun it s₂ hq => ?_) fun _ _ e => e
  obtain ⟨I, fp, n, P, St, S, news, rfl, W, hsz, hIo, hSt, st0, hfp, F, N, hIL, hI₀, off, hS, R⟩ := hq
  refine LCg.block_U W hsz hIo hSt hcell hkind hx st0 hfp F N hIL hI₀ off hS R ?_
  intro D C h tk m' ys news' F' N' o1 hn hC₀ hD₀ hCL hDL hCD offC fin
  refine ⟨m', hn, fun h'' hs'' => fin D h'' tk (F'.change hs'' hCL hC₀) (fun p hp => ?_) o1⟩
  refine ⟨hs''.extBut _ _ ?_ (N' p hp).1, (N' p hp).2⟩
  rcases List.mem_cons.mp hp with rfl | hp
  · exact Ne.symm hCD
  · exact offC p hp

theorem Assign_ListComp_W {iter : Expr} {y : Str} {px py : Pos} {pos spos : Pos} {Q : Flow → Shared → Prop} (_F₀ : Fr h₀ L s.heap m) (hLe : env.locals = L)
    (hsw : swapsWith (.ListComp elt [⟨.Name x px, iter, [], 0⟩] scope pos) (some (.Name y py)) spos.line env = pure true)
    (hclos : closureFor scope env = pure cl) (hcell : ∀ z ∈ scope.names, z.2 ≠ .cell) (hkind : scope.kind = .function)
    (hnames : ∀ z ∈ scope.names, z.2 = .local → scope.names.lookup z.1 = some .local) (hx : scope.names.lookup x = some .local)
    (hy : env.kindOf y = some .local) (hp : (env.scope.kind == .class || (env.scope.kind == .module && env.locals != env.globals)) = false)
    (h : wpAny (model prog w) A (eval iter env) (CSrc prog w A h₀ L m env elt x scope cl (fun s₂ => LCg.FinA h₀ L m s₂ y Q) E) E s)
    (hs : ∀ x, foldedSetIterable iter env x = pure x := by intro _; rfl) :
    wpAny (model prog w) A (exec (.Assign [.Name y py] (.ListComp elt [⟨.Name x px, iter, [], 0⟩] scope pos) spos) env) Q E s := by
  subst hLe
  rw [exec_Assign_Name_used _ _ _ _ hsw]
  refine wpAny_bind (wpAny_standAt (wpAny_bind ?_))
  show wpAny _ A (do let _ ← comprehension (.ListComp elt [⟨.Name x px, iter, [], 0⟩] scope pos) scope env _ (newList []) false (eval iter env) (some (assign (.Name y py) env))) _ _ s
  refine wpAny_bind (wpAny_mono (wpAny_comprehension_free (use := some (assign (.Name y py) env)) (Q := fun _ s' => Q .next s') rfl hs hclos hkind hnames
    (wpAny_mono h (fun xv s₁ h₁ => ?_) fun _ _ e => e)) (fun _ s' hq => wpAny_pure (wpAny_pure hq)) fun _ _ e => e)
  refine wpAny_mono h₁ (fun it s₂ hq => ?_) fun _ _ e => e
  obtain ⟨I, fp, n, P, St, S, news, rfl, W, hsz, hIo, hSt, st0, hfp, F, N, hIL, hI₀, off, hS, R⟩ := hq
  refine LCg.block_U W hsz hIo hSt hcell hkind hx st0 hfp F N hIL hI₀ off hS R ?_
  intro D C h' tk m' ys news' F' N' o1 hn hC₀ hD₀ hCL hDL hCD offC fin
  show wpAny _ A (assign (.Name y py) env (.ref D)) _ _ _
  refine wpAny_assign_Name (wpAny_storeName_local hy F'.ns (fun h₂ hn₂ hs₂ => ?_) hp)
  have hL₀ : h₀.get? env.locals = none := Heap.get?_none_of_le F'.above
  have F₂ : Fr h₀ env.locals h₂ (fun z => if z = y then some (.ref D) else m z) := ⟨hn₂, fun b o e => hs₂.extBut b o (fun q => by rw [q, hL₀] at e; cases e) (F'.keep b o e), F'.above⟩
  refine ⟨m', hn.sameBut hs₂ hCL, fun h'' hs'' => fin D h'' _ (F₂.change hs'' hCL hC₀) (fun p hp => ?_) o1⟩
  have z : h₂.get? p.1 = some p.2 := hs₂.extBut _ _ (N' p hp).2.1 (N' p hp).1
  refine ⟨hs''.extBut _ _ ?_ z, (N' p hp).2⟩
  rcases List.mem_cons.mp hp with rfl | hp
  · exact Ne.symm hCD
  · exact offC p hp
end

theorem ints_of {ys : List Value} {g : Nat → Int} : ∀ {n : Nat}, ys.length = n → (∀ i, i < n → ∃ y, ys[i]? = some y ∧ ∃ t, y = .int (g i) t) → IntsAre ys ((List.range n).map g) := by
  intro n
  induction n generalizing ys with
  | zero => intro hl _; obtain rfl := List.length_eq_zero_iff.mp hl; exact .nil
  | succ n ih =>
    intro hl h
    obtain ⟨y, hy, t, e⟩ := h n (Nat.lt_succ_self n)
    have hd : ys = ys.take n ++ [y] := by
      rw [List.getElem?_eq_some_iff] at hy
      obtain ⟨hb, hy⟩ := hy
      have := List.take_append_getElem (l := ys) (i := n) hb
      rw [← hy, this, List.take_of_length_le (by omega)]
    rw [hd, List.range_succ, List.map_append]
    refine IntsAre.append (ih (by rw [List.length_take]; omega) fun i hi => ?_) (by subst e; exact .cons _ _ .nil)
    obtain ⟨y', h1, h2⟩ := h i (by omega)
    exact ⟨y', by rw [List.getElem?_take, if_pos hi]; exact h1, h2⟩
end Mine
namespace Mine
section
variable {prog : Program} {w : World} {A : Around} {E : Value → Shared → Prop} {s : Shared} {h₀ : Heap} {L : Addr} {news : List (Addr × Obj)}
theorem ints_at {vs : List Value} {ns : List Int} (hi : IntsAre vs ns) {k : Nat} (hk : k < ns.length) : ∃ t, vs[k]? = some (.int (ns.getD k 0) t) := by
  obtain ⟨t, e⟩ := hi.get k ns[k] (by simp [hk])
  exact ⟨t, by rw [e]; simp [List.getD, hk]⟩
/-- an int out of a list of ints of the ledger, at a place that lies in it -/
theorem item_of {value slice : PySem.Expr} {D : Addr} {vs : List Value} {cn : Nat} {ns : List Int} {k : Int} {u : Tok} {Q : Value → Shared → Prop}
    (N : News h₀ L s.heap news) (hm : (D, ({ cls := .type "list", data := .seq vs.toArray cn } : Obj)) ∈ news) (hi : IntsAre vs ns) (h0 : 0 ≤ k) (h1 : k < (ns.length : Int)) (hs : ns.length < 2 ^ 62) (h : ∀ t, Q (.int (ns.getD k.toNat 0) t) s)
    (hsub : subscripted slice false (.ref D) (.int k u) = operate [.ref D, .int k u] (getItem (.ref D) (.int k u)) := by with_unfolding_all rfl) :
    wpAny (model prog w) A (subscriptTail value slice (.ref D) (.int k u)) Q E s := by
  obtain ⟨t, e⟩ := ints_at hi (k := k.toNat) (by omega)
  have hl : s.heap.IsList D vs.toArray := ⟨_, (N _ hm).1, rfl, _, rfl⟩
  exact tail_any hl.typeIs slot_list_getitem.lookup (wpAny_getItem_list hl h0 (by omega) (by simpa using e) (h t)) hsub
end
end Mine
end
section
open PySem PySem.W PyProof.Rows PySem.Spec PySem.Calls
namespace Mine
theorem any_ints {ys : List PySem.Value} {n : Nat} (hl : ys.length = n) (h : ∀ i, i < n → ∃ y : PySem.Value, ys[i]? = some y ∧ ∃ (z : Int) (t : PySem.Tok), y = PySem.Value.int z t) : ∃ zs : List Int, zs.length = n ∧ PyProof.Rows.IntsAre ys zs := by
  refine ⟨(List.range n).map fun i => (match ys[i]? with | some (PySem.Value.int z _) => z | _ => 0), by simp, ints_of hl fun i hi => ?_⟩
  obtain ⟨y, e, z, t, e'⟩ := h i hi
  exact ⟨y, e, t, by rw [e', e]; simp [e']⟩
end Mine
end
section
open PySem PySem.W PyProof.Rows PySem.Spec PySem.Calls
namespace Mine
section
variable {prog : Program} {w : World} {A : Around} {E : Value → Shared → Prop} {s : Shared} {h₀ : Heap} {L : Addr} {news : List (Addr × Obj)}
/-- an int out of a tuple of three ints -/
theorem menu3 {value slice : PySem.Expr} {D : Addr} {a b c k : Int} {ta tb tc : Tok} {cn : Nat} {u : Tok} {Q : Value → Shared → Prop}
    (N : News h₀ L s.heap news) (hm : (D, ({ cls := .type "tuple", data := .seq #[.int a ta, .int b tb, .int c tc] cn } : Obj)) ∈ news) (h0 : 0 ≤ k) (h1 : k < 3) (h : ∀ p t, (p = a ∨ p = b ∨ p = c) → Q (.int p t) s)
    (hsub : subscripted slice false (.ref D) (.int k u) = operate [.ref D, .int k u] (getItem (.ref D) (.int k u)) := by with_unfolding_all rfl) :
    wpAny (model prog w) A (subscriptTail value slice (.ref D) (.int k u)) Q E s := by
  have ht : s.heap.IsTuple D #[.int a ta, .int b tb, .int c tc] := ⟨_, (N _ hm).1, rfl, _, rfl⟩
  rcases (show k = 0 ∨ k = 1 ∨ k = 2 by omega) with rfl | rfl | rfl
  · exact tail_any ht.typeIs slot_tuple_getitem.lookup (getItem_tuple (j := 0) ht (by decide) (by decide) rfl rfl (h a ta (.inl rfl))) hsub
  · exact tail_any ht.typeIs slot_tuple_getitem.lookup (getItem_tuple (j := 1) ht (by decide) (by decide) rfl rfl (h b tb (.inr (.inl rfl)))) hsub
  · exact tail_any ht.typeIs slot_tuple_getitem.lookup (getItem_tuple (j := 2) ht (by decide) (by decide) rfl rfl (h c tc (.inr (.inr rfl)))) hsub
end
end Mine
namespace Mine
/-- the first k statements by the library's logic, the others by the own one -/
theorem wpI_execs_split {M : Model} {A : Around} {E : Value → Shared → Prop} {s : Shared} {env : Env} {Q : Flow → Shared → Prop} (k : Nat) {l l1 l2 : List Stmt} (h1 : l.take k = l1) (h2 : l.drop k = l2)
    (h : wpAny M A (execs l1 env) (fun f s' => match f with | .next => wpI M A (execs l2 env) Q E s' | f => Q f s') E s) : wpI M A (execs l env) Q E s := by
  subst h1 h2
  have := wpI_execs_append (l1 := l.take k) (l2 := l.drop k) h
  rwa [List.take_append_drop] at this
end Mine
end
section
open PySem PySem.W PySem.Spec PySem.Calls PyProof.Rows
namespace Mine
set_option maxRecDepth 100000 in
set_option maxHeartbeats 8000000 in
theorem div2 (a b : Int) (t1 t2 t3 : Tok) (ha : 0 ≤ a) (ha2 : a < 2 ^ 24) (hb : 0 < b) (hb2 : b < 2 ^ 12) : Ct 2 51 [.int a t1, .int b t2, .int 12 t3] (Gives fun o => ∃ t7 t8, o = { cls := .type "tuple", data := .seq #[.int (Int.fdiv a b) t7, .int (Int.fmod a b) t8] }) := by
  w_top off
  k_with_none
  delta Ct KK VW LS PG ar
  k_fill
  intro w mean mg mb dp un fr gd s Q E X T hd hu hret
  have hbits : Builtin.Int.intBits a ≤ 64 := intBits_le_64 (by omega) (by omega)
  refine wpAny_call ?_
  k_dflt (refine' enterP ?k1 ?k2 ?k3 ?k4 ?k5 ?k6 ?k7 ?_ ?c1 ?c2 ?c3 ?c4; (case k1 => exact X); (case k2 => exact T); (case k3 => k_is); (case k4 => k_is); (case k5 => dsimp only; omega); (case k6 => exact BindsTo.of_eq rfl); (case k7 => exact locs rfl); (case c1 => exact rfl); (case c2 => exact rfl); (case c3 => exact rfl); (case c4 => decide))
  intro L' h₁ hL F'
  have N' : News s.heap L' h₁ [] := News.nil
  try dsimp only
  k_steps
  all_goals exact hret _ _ _ ⟨_, _, rfl, News.fresh (by assumption) (List.Mem.head _), News.get (by assumption) (List.Mem.head _), _, _, rfl⟩ (fr_keep (by assumption))
end Mine
end
section
open PySem
namespace Mine
theorem bor_low {x y : Int} (hx : 0 ≤ x) (hy : 0 ≤ y) (hy' : y < 4096) : Builtin.bitOr (x * 2 ^ Int.toNat 12) y = x * 4096 + y := by
  obtain ⟨x, rfl⟩ := Int.eq_ofNat_of_zero_le hx
  obtain ⟨y, rfl⟩ := Int.eq_ofNat_of_zero_le hy
  have hp : ((x : Int) * 2 ^ Int.toNat 12) = ((2 ^ 12 * x : Nat) : Int) := by
    have : (2 : Int) ^ Int.toNat 12 = 4096 := by decide
    rw [this]; omega
  rw [hp]
  have h := Nat.two_pow_add_eq_or_of_lt (i := 12) (b := y) (by omega) x
  have key : ∀ X Y : Nat, Builtin.bitOr (X : Int) (Y : Int) = ((X ||| Y : Nat) : Int) := by
    intro X Y
    unfold Builtin.bitOr Builtin.bitAnd Builtin.bitNot
    have h1 : (decide ((-(X : Int) - 1) ≥ 0)) = false := by simp; omega
    have h2 : (decide ((-(Y : Int) - 1) ≥ 0)) = false := by simp; omega
    simp only [h1, h2]
    have e1 : (-(-(X : Int) - 1) - 1).toNat = X := by omega
    have e2 : (-(-(Y : Int) - 1) - 1).toNat = Y := by omega
    rw [e1, e2]
    omega
  rw [key, ← h]
  omega
theorem d3_start1 {a12 a3 b b1 b2 : Int} (ha : 0 ≤ a12) (h3 : 0 ≤ a3) (h3' : a3 < 4096) (hb : b = b1 * 4096 + b2) (hb1 : 2048 ≤ b1) (hb1' : b1 < 4096) (hb2 : 0 ≤ b2) (hb2' : b2 < 4096) (hlt : a12 < b)
    (he : a12.fdiv (2 ^ Int.toNat 12) = b1) : (1 * 2 ^ Int.toNat 12 - 1) * b + (Builtin.bitOr ((a12 - b1 * 2 ^ Int.toNat 12 + b1) * 2 ^ Int.toNat 12) a3 - (1 * 2 ^ Int.toNat 12 - 1) * b2) = a12 * 4096 + a3 ∧
    Builtin.bitOr ((a12 - b1 * 2 ^ Int.toNat 12 + b1) * 2 ^ Int.toNat 12) a3 - (1 * 2 ^ Int.toNat 12 - 1) * b2 < b := by
  have p : (2 : Int) ^ Int.toNat 12 = 4096 := by decide
  have hd : a12.fdiv 4096 = a12 / 4096 := Int.fdiv_eq_ediv_of_nonneg _ (by decide)
  rw [p] at he
  rw [hd] at he
  have q : 0 ≤ a12 - b1 * 2 ^ Int.toNat 12 + b1 := by rw [p]; omega
  rw [bor_low q h3 h3', p]
  omega
theorem d3_start2 {a12 a3 b b1 b2 : Int} (ha : 0 ≤ a12) (h3 : 0 ≤ a3) (h3' : a3 < 4096) (hb : b = b1 * 4096 + b2) (hb1 : 2048 ≤ b1) (hb1' : b1 < 4096) (hb2 : 0 ≤ b2) (hb2' : b2 < 4096) (hlt : a12 < b) :
    a12.fdiv b1 * b + (Builtin.bitOr ((a12.fmod b1) * 2 ^ Int.toNat 12) a3 - a12.fdiv b1 * b2) = a12 * 4096 + a3 ∧
    Builtin.bitOr ((a12.fmod b1) * 2 ^ Int.toNat 12) a3 - a12.fdiv b1 * b2 < b := by
  have hd : a12.fdiv b1 = a12 / b1 := Int.fdiv_eq_ediv_of_nonneg _ (by omega)
  have hm : a12.fmod b1 = a12 % b1 := Int.fmod_eq_emod_of_nonneg _ (by omega)
  rw [hd, hm]
  have m0 : 0 ≤ a12 % b1 := Int.emod_nonneg _ (by omega)
  have m1 : a12 % b1 < b1 := Int.emod_lt_of_pos _ (by omega)
  have dm : b1 * (a12 / b1) + a12 % b1 = a12 := Int.mul_ediv_add_emod a12 b1
  have q0 : 0 ≤ a12 / b1 := Int.ediv_nonneg ha (by omega)
  rw [bor_low m0 h3 h3']
  generalize a12 / b1 = q at *
  generalize a12 % b1 = r at *
  have hqb : 0 ≤ q * b2 := Int.mul_nonneg q0 hb2
  subst hb
  have e1 : q * (b1 * 4096 + b2) = (b1 * q) * 4096 + q * b2 := by
    rw [Int.mul_add, ← Int.mul_assoc, Int.mul_comm q b1]
  rw [e1]
  omega
theorem d3_turn {a b q r : Int} (h : q * b + r = a ∧ r < b) (hr : r < 0) : (q - 1) * b + (r + b) = a ∧ r + b < b := by
  rw [Int.sub_mul]
  omega
end Mine
end
section
open PySem PySem.W PySem.Spec PySem.Calls PyProof.Rows
namespace Mine
local macro_rules | `(tactic| ktr_room) => `(tactic| first | ((try simp only [depth_deeper, depth_in1] at *); (try dsimp only at *); omega))

local macro_rules | `(tactic| walk_at "call ref") => `(tactic| (k_here; (with_unfolding_all refine' Ct.useO (div2 _ _ _ _ _ ?a1 ?a2 ?a3 ?a4) ?kF ?kX ?kN ?kT ?kd ?ku ?_); (case a1 => omega); (case a2 => omega); (case a3 => omega); (case a4 => omega); (case kF => k_asm); (case kX => k_asm); (case kN => k_asm); (case kT => k_asm); (case kd => ktr_room); (case ku => ktr_units); (intro x o h' tk' hP F' N' l1; obtain ⟨t7, t8, hE⟩ := hP; subst hE); (try dsimp only); (try simp only [List.forall_mem_cons] at l1)))
set_option maxRecDepth 100000 in
set_option maxHeartbeats 8000000 in
theorem div3 (a12 a3 b b1 b2 : Int) (t1 t2 t3 t4 t5 t6 : Tok) (ha : 0 ≤ a12) (h3 : 0 ≤ a3) (h3' : a3 < 4096) (hb : b = b1 * 4096 + b2) (hb1 : 2048 ≤ b1) (hb1' : b1 < 4096) (hb2 : 0 ≤ b2) (hb2' : b2 < 4096) (hlt : a12 < b) :
  Ct 5 58 [.int a12 t1, .int a3 t2, .int b t3, .int b1 t4, .int b2 t5, .int 12 t6] (Gives fun o => ∃ q r t7 t8, o = { cls := .type "tuple", data := .seq #[.int q t7, .int r t8] } ∧ q * b + r = a12 * 4096 + a3 ∧ 0 ≤ r ∧ r < b) := by
  w_top off
  k_with_none
  delta Ct KK VW LS PG ar
  k_fill
  intro w mean mg mb dp un fr gd s Q E X T hd hu hret
  have hbits : Builtin.Int.intBits a12 ≤ 64 := intBits_le_64 (by omega) (by omega)
  refine wpAny_call ?_
  k_dflt (refine' enterP ?k1 ?k2 ?k3 ?k4 ?k5 ?k6 ?k7 ?_ ?c1 ?c2 ?c3 ?c4; (case k1 => exact X); (case k2 => exact T); (case k3 => k_is); (case k4 => k_is); (case k5 => dsimp only; omega); (case k6 => exact BindsTo.of_eq rfl); (case k7 => exact locs rfl); (case c1 => exact rfl); (case c2 => exact rfl); (case c3 => exact rfl); (case c4 => decide))
  intro L' h₁ hL F'
  have N' : News s.heap L' h₁ [] := News.nil
  try dsimp only
  k_with "exec While Compare cons nil" => k_while (fun (_ : List Int) (q r : Int) => q * b + r = a12 * 4096 + a3 ∧ r < b) (fun (_ : List Int) (q r : Int) => (-r).toNat) "q" "r"
  k_with "state" => first | exact d3_start1 ha h3 h3' hb hb1 hb1' hb2 hb2' hlt (by assumption) | exact d3_start2 ha h3 h3' hb hb1 hb1' hb2 hb2' hlt | (simp only [Int.sub_mul]; omega)
  k_steps
  skip
  any_goals exact hret _ _ _ ⟨_, _, rfl, News.fresh (by assumption) (List.Mem.head _), News.get (by assumption) (List.Mem.head _), _, _, _, _, rfl, by omega, by omega, by omega⟩ (fr_keep (by assumption))
end Mine
end
section
open PySem PySem.W PyProof.Rows PySem.Spec PySem.Calls
namespace Mine
section
variable {prog : Program} {w : World} {A : Around} {E : Value → Shared → Prop} {s : Shared} {env : Env} {h₀ : Heap} {x : Str} {body : List Stmt} {Q : Flow → Shared → Prop}
/-- a loop over range(n) that turns one int name y and one list of texts (the newest object), which the frame need not name -/
theorem loop_txts {r : Addr} {b₀ : Int} {t₀ u₀ v₀ : Tok} {n : Nat} {m₀ : Str → Option Value} {a : Addr} {rest : List (Addr × Obj)} {y : Str} {z₀ : Int} {tz₀ : Tok} {c₀ : Nat} (stored : List Str) (P : List Int → Int → List Str → Prop)
    (hh : A.handled = none) (hr : IsRange s.heap r 0 b₀ 1 t₀ u₀ v₀) (hsmall : Builtin.Range.small 0 b₀ 1 = true) (hn : Builtin.Range.rangeSize 0 b₀ 1 = (n : Int)) (F : Fr h₀ env.locals s.heap m₀) (N : News h₀ env.locals s.heap ((a, listOf #[] c₀) :: rest)) (hy : m₀ y = some (.int z₀ tz₀)) (hp : P [] z₀ [])
    (turn : ∀ (zz : Int) (tz : Tok) (vs : List Value) (fs : List Str) (cn : Nat) (pre : List Int) (k : Int) t (u : Str → Option Value) h tk own, k = 0 + (pre.length : Int) → pre.length < n → OwnOff own (a :: rest.map (·.1)) → StrsAre vs fs → P pre zz fs →
      Fr h₀ env.locals h (fun z => if z = x then some (.int k t) else if z = y then some (.int zz tz) else if stored.contains z then u z else m₀ z) → News h₀ env.locals h ((a, listOf vs.toArray cn) :: rest ++ own) →
      wpAny (model prog w) A (execs body env) (InvPostN h₀ env.locals (KstS (fun c : Int × Nat × List Value × List Str × Nat => (a, listOf c.2.2.1.toArray c.2.2.2.2) :: rest) (fun c => [(y, .int c.1 c.2.1)]) (fun c => StrsAre c.2.2.1 c.2.2.2.1) x stored m₀ (fun pre c => P pre c.1 c.2.2.2.1) (pre ++ [k])) own (a :: rest.map (·.1)) { s with heap := h, toks := tk } Q) E { s with heap := h, toks := tk })
    (done : ∀ (zz : Int) (tz : Tok) (vs : List Value) (fs : List Str) (cn : Nat) (u : Str → Option Value) h tk, StrsAre vs fs → P (rangeKs 0 n) zz fs → Fr h₀ env.locals h (fun z => if z = x then u z else if z = y then some (.int zz tz) else if stored.contains z then u z else m₀ z) → News h₀ env.locals h ((a, listOf vs.toArray cn) :: rest) → Q .next { s with heap := h, toks := tk }) :
    wpAny (model prog w) A (pyIter (.ref r)) (fun it s₂ => LoopAtV prog w A h₀ env x body Q E it s₂) E s :=
  kst_range (σ := Int × Nat × List Value × List Str × Nat) (fun c => (a, listOf c.2.2.1.toArray c.2.2.2.2) :: rest) (fun c => [(y, .int c.1 c.2.1)]) (fun c => StrsAre c.2.2.1 c.2.2.2.1) stored (fun pre c => P pre c.1 c.2.2.2.1) (z₀, tz₀, [], [], c₀)
    hh hr hsmall hn F N .nil (fun p hp' => by rw [List.mem_singleton.mp hp']; exact hy) hp
    (fun c pre k t u h tk own e hl ho hf hp' F' N' => turn c.1 c.2.1 c.2.2.1 c.2.2.2.1 c.2.2.2.2 pre k t u h tk own e hl ho hf hp' F' N')
    (fun c u h tk hf hp' F' N' => done c.1 c.2.1 c.2.2.1 c.2.2.2.1 c.2.2.2.2 u h tk hf hp' F' N')
end
/-- the rest before the k-th clock -/
def zk (p z : Int) : Nat → Int
  | 0 => z
  | n + 1 => (3600 * zk p z n).fmod p
/-- the k-th clock in minutes -/
def ckI (p z : Int) (n : Nat) : Int := (3600 * zk p z n).fdiv p
/-- four figures -/
def celL (c : Nat) : List Nat := [48 + c / 600, 48 + c / 60 % 10, 48 + c % 60 / 10, 48 + c % 10]
def celS (c : Nat) : Str := ⟨(celL c).toArray⟩
def cells (p z : Int) (n : Nat) : List Str := (List.range n).map fun k => celS (ckI p z k).toNat
def CK (p z W B : Int) (pre : List Int) (rest : Int) (ts : List Str) : Prop :=
  rest = zk p z pre.length * W ∧ ts = cells p z pre.length ∧ ts.length = pre.length ∧ 0 ≤ rest ∧ rest < B ∧ 0 ≤ zk p z pre.length ∧ zk p z pre.length < p
theorem zk_rng {p z : Int} (hp : 0 < p) (h0 : 0 ≤ z) (h1 : z < p) : ∀ n, 0 ≤ zk p z n ∧ zk p z n < p
  | 0 => ⟨h0, h1⟩
  | n + 1 => by
    unfold zk
    rw [Int.fmod_eq_emod_of_nonneg _ (by omega)]
    exact ⟨Int.emod_nonneg _ (by omega), Int.emod_lt_of_pos _ hp⟩
theorem ck_rng {p z : Int} (hp : 0 < p) (h0 : 0 ≤ z) (h1 : z < p) (n : Nat) : 0 ≤ ckI p z n ∧ ckI p z n < 3600 := by
  obtain ⟨a, b⟩ := zk_rng hp h0 h1 n
  unfold ckI
  rw [Int.fdiv_eq_ediv_of_nonneg _ (by omega)]
  constructor
  · exact Int.ediv_nonneg (by omega) (by omega)
  · exact Int.ediv_lt_of_lt_mul hp (by omega)
theorem mulW_rng {z p W : Int} (hW : 0 < W) (h0 : 0 ≤ z) (h1 : z < p) : 0 ≤ z * W ∧ z * W < p * W :=
  ⟨Int.mul_nonneg h0 (by omega), Int.mul_lt_mul_of_pos_right h1 hW⟩
theorem ck_start {p z W B : Int} (hB : B = p * W) (hW : 0 < W) (h0 : 0 ≤ z) (h1 : z < p) : CK p z W B [] (z * W) [] := by
  subst hB
  exact ⟨rfl, rfl, rfl, (mulW_rng hW h0 h1).1, (mulW_rng hW h0 h1).2, h0, h1⟩
/-- what the division tells -/
theorem ck_div {p z W B q r : Int} (hp : 0 < p) (hB : B = p * W) (hW : 0 < W) (h0 : 0 ≤ z) (h1 : z < p) (he : q * B + r = 3600 * (z * W)) (hr0 : 0 ≤ r) (hr1 : r < B) :
    q = (3600 * z).fdiv p ∧ r = (3600 * z).fmod p * W := by
  subst hB
  rw [Int.fdiv_eq_ediv_of_nonneg _ (by omega), Int.fmod_eq_emod_of_nonneg _ (by omega)]
  have e : (3600 * z) * W = (q * (p * W) + r) := by rw [he, Int.mul_assoc]
  have d := Int.mul_ediv_add_emod (3600 * z) p
  have hm0 := Int.emod_nonneg (3600 * z) (show p ≠ 0 by omega)
  have hm1 := Int.emod_lt_of_pos (3600 * z) hp
  obtain ⟨a1, a2⟩ := mulW_rng hW hm0 hm1
  have e2 : (3600 * z / p) * (p * W) + (3600 * z % p) * W = q * (p * W) + r := by
    rw [← e, ← Int.mul_assoc, ← Int.add_mul]
    rw [Int.mul_comm (3600 * z / p) p, d]
  have hpW : 0 < p * W := Int.mul_pos hp hW
  have k1 : (q * (p * W) + r) / (p * W) = q := by
    rw [Int.add_comm, Int.add_mul_ediv_right _ _ (by omega), Int.ediv_eq_zero_of_lt hr0 hr1]; omega
  have k2 : ((3600 * z / p) * (p * W) + (3600 * z % p) * W) / (p * W) = 3600 * z / p := by
    rw [Int.add_comm, Int.add_mul_ediv_right _ _ (by omega), Int.ediv_eq_zero_of_lt a1 a2]; omega
  have hq : q = 3600 * z / p := by rw [← k1, ← e2, k2]
  refine ⟨hq, ?_⟩
  rw [← hq] at e2
  omega
theorem cells_succ (p z : Int) (n : Nat) : cells p z (n + 1) = cells p z n ++ [celS (ckI p z n).toNat] := by
  unfold cells; rw [List.range_succ, List.map_append]; rfl
theorem ck_turn {p z W B q r rest k : Int} {pre : List Int} {ts : List Str} {x : Str} (hp : 0 < p) (hB : B = p * W) (hW : 0 < W) (h : CK p z W B pre rest ts) (he : q * B + r = 3600 * rest) (hr0 : 0 ≤ r) (hr1 : r < B)
    (hx : x = celS q.toNat) : CK p z W B (pre ++ [k]) r (ts ++ [x]) := by
  obtain ⟨c1, c2, c3, c4, c5, c6, c7⟩ := h
  rw [c1] at he
  obtain ⟨d1, d2⟩ := ck_div hp hB hW c6 c7 he hr0 hr1
  have e : (pre ++ [k]).length = pre.length + 1 := by simp
  unfold CK
  rw [e]
  have zr := zk_rng hp c6 c7 1
  refine ⟨d2, ?_, by simp [c3], hr0, hr1, zr.1, zr.2⟩
  rw [cells_succ, c2, hx, d1]; rfl
/-- the quotient's bounds -/
theorem ck_q {p z W B q r rest : Int} {pre : List Int} {ts : List Str} (hp : 0 < p) (hB : B = p * W) (hW : 0 < W) (h : CK p z W B pre rest ts) (he : q * B + r = 3600 * rest) (hr0 : 0 ≤ r) (hr1 : r < B) : 0 ≤ q ∧ q < 3600 := by
  obtain ⟨c1, c2, c3, c4, c5, c6, c7⟩ := h
  rw [c1] at he
  obtain ⟨d1, d2⟩ := ck_div hp hB hW c6 c7 he hr0 hr1
  rw [d1]
  exact ck_rng (z := zk p z pre.length) hp c6 c7 0
theorem z_lo (p a : Int) (hp : p = 23 ∨ p = 47 ∨ p = 19) : 1 ≤ 1 + a.fmod (p - 1) := by
  have := Int.fmod_nonneg_of_pos a (show 0 < p - 1 by omega)
  omega
theorem z_hi (p a : Int) (hp : p = 23 ∨ p = 47 ∨ p = 19) : 1 + a.fmod (p - 1) < p := by
  have := Int.fmod_lt_of_pos a (show 0 < p - 1 by omega)
  omega
theorem w_rng (p a : Int) (hp : p = 23 ∨ p = 47 ∨ p = 19) : 0 < Int.fdiv 8388608 p + 1 + a.fmod (Int.fdiv 8388608 p - 1) ∧ 8388608 < p * (Int.fdiv 8388608 p + 1 + a.fmod (Int.fdiv 8388608 p - 1)) ∧ p * (Int.fdiv 8388608 p + 1 + a.fmod (Int.fdiv 8388608 p - 1)) < 16777216 := by
  rcases hp with rfl | rfl | rfl
  · have e : Int.fdiv 8388608 23 = 364722 := by decide
    rw [e]
    have h1 := Int.fmod_nonneg_of_pos a (show (0 : Int) < 364722 - 1 by decide)
    have h2 := Int.fmod_lt_of_pos a (show (0 : Int) < 364722 - 1 by decide)
    omega
  · have e : Int.fdiv 8388608 47 = 178481 := by decide
    rw [e]
    have h1 := Int.fmod_nonneg_of_pos a (show (0 : Int) < 178481 - 1 by decide)
    have h2 := Int.fmod_lt_of_pos a (show (0 : Int) < 178481 - 1 by decide)
    omega
  · have e : Int.fdiv 8388608 19 = 441505 := by decide
    rw [e]
    have h1 := Int.fmod_nonneg_of_pos a (show (0 : Int) < 441505 - 1 by decide)
    have h2 := Int.fmod_lt_of_pos a (show (0 : Int) < 441505 - 1 by decide)
    omega
theorem news_pick {h₀ h : Heap} {L : Addr} {a b c d e f g i : Addr × Obj} {r : List (Addr × Obj)} (N : News h₀ L h (a :: b :: c :: d :: e :: f :: g :: i :: r)) : News h₀ L h [a, b, e, f, g, i] := fun p hp => N p (by
  simp only [List.mem_cons, List.not_mem_nil, or_false] at hp ⊢
  rcases hp with h | h | h | h | h | h <;> simp [h])
theorem half_ks {p : Int} (hp : p = 23 ∨ p = 47 ∨ p = 19) : Builtin.Range.small 0 ((p - 1).fdiv 2) 1 = true := by rcases hp with rfl | rfl | rfl <;> decide
theorem half_kz {p : Int} (hp : p = 23 ∨ p = 47 ∨ p = 19) : Builtin.Range.rangeSize 0 ((p - 1).fdiv 2) 1 = ((((p - 1) / 2).toNat : Nat) : Int) := by rcases hp with rfl | rfl | rfl <;> decide
theorem half_kl {p : Int} (hp : p = 23 ∨ p = 47 ∨ p = 19) : ((p - 1) / 2).toNat ≤ sizeLine := by rcases hp with rfl | rfl | rfl <;> decide
theorem half_lt {p : Int} (hp : p = 23 ∨ p = 47 ∨ p = 19) : ((p - 1) / 2).toNat < 47 := by rcases hp with rfl | rfl | rfl <;> decide
theorem p_pos {p : Int} (hp : p = 23 ∨ p = 47 ∨ p = 19) : 0 < p := by rcases hp with rfl | rfl | rfl <;> decide
theorem lt47 {n m l : Nat} (h1 : n = m) (h2 : m = l) (h : l < 47) : n < 47 := by omega
theorem nat_ix (i : Nat) : (0 + (i : Int) * 1).toNat = i := by omega
theorem w_ne {p : Int} (hp : p = 23 ∨ p = 47 ∨ p = 19) : (8388608 : Int).fdiv p - 1 ≠ 0 := by rcases hp with rfl | rfl | rfl <;> decide
theorem w_pos {p : Int} (hp : p = 23 ∨ p = 47 ∨ p = 19) : 0 < (8388608 : Int).fdiv p - 1 := by rcases hp with rfl | rfl | rfl <;> decide
theorem w_lt {p : Int} (hp : p = 23 ∨ p = 47 ∨ p = 19) : (8388608 : Int).fdiv p - 1 < 441506 := by rcases hp with rfl | rfl | rfl <;> decide
section
variable {prog : Program} {w : World} {A : Around} {E : Value → Shared → Prop} {s : Shared} {a b p : Int} {t u : Tok} {Q : Value → Shared → Prop}
theorem fdiv_p (hp : p = 23 ∨ p = 47 ∨ p = 19) (h : Q (.int (Int.fdiv 8388608 p) s.toks) { s with toks := s.toks + 1 }) : wpAny (model prog w) A (binaryOp .FloorDiv (.int 8388608 t) (.int p u)) Q E s := by
  rcases hp with rfl | rfl | rfl <;> exact floordiv_int (by decide) h
theorem mul_bnd (ha : a.natAbs < 2 ^ 64) (h : Q (.int (a * b) s.toks) { s with toks := s.toks + 1 }) : wpAny (model prog w) A (binaryOp .Mult (.int a t) (.int b u)) Q E s :=
  PyProof.Rows.mul_int h (IntMulOk.of_left (intBits_le ha))
theorem p_abs (hp : p = 23 ∨ p = 47 ∨ p = 19) : p.natAbs < 2 ^ 64 := by rcases hp with rfl | rfl | rfl <;> decide
theorem z_abs (p a : Int) (hp : p = 23 ∨ p = 47 ∨ p = 19) : (1 + a.fmod (p - 1)).natAbs < 2 ^ 64 := by
  have h1 := z_lo p a hp
  have h2 := z_hi p a hp
  have h3 := half_lt hp
  omega
end
theorem sz47 {vs : List Value} (h : vs.length < 47) : vs.toArray.size ≤ sizeLine := by rw [List.size_toArray, sizeLine_eq]; omega
theorem room_ok {dp k n : Nat} (h : dp + 20 < recursionLimit) (hk : k + n ≤ 20) : dp + k + n < recursionLimit := by omega
theorem units_ok {un k n : Nat} (h : un + 800 < cLine) (hk : k + 500 + 10 * n ≤ 800) : un + k + 500 + 10 * n < cLine := by omega
theorem pm1_lt {p : Int} (hp : p = 23 ∨ p = 47 ∨ p = 19) : (p - 1 - 0).toNat < 47 := by rcases hp with rfl | rfl | rfl <;> decide
theorem pm1_small {p : Int} (hp : p = 23 ∨ p = 47 ∨ p = 19) : Builtin.Range.small 0 (p - 1) 1 = true := by rcases hp with rfl | rfl | rfl <;> decide
end Mine
end
section
open PySem PySem.W PySem.Spec PySem.Calls PyProof.Rows
namespace Mine
theorem fd12 (a : Int) : a.fdiv (2 ^ Int.toNat 12) = a / 4096 := by
  rw [show (2 : Int) ^ Int.toNat 12 = 4096 from by decide]
  exact Int.fdiv_eq_ediv_of_nonneg _ (by decide)
theorem fm12 (a : Int) : a.fmod 4096 = a % 4096 := Int.fmod_eq_emod_of_nonneg _ (by decide)
theorem div3x (B rest : Int) (t1 t2 t3 t4 t5 t6 : Tok) (hB0 : 8388608 < B) (hB1 : B < 16777216) (h0 : 0 ≤ rest) (h1 : rest < B) :
    Ct 5 58 [.int ((3600 * rest).fdiv (2 ^ Int.toNat 12)) t1, .int ((3600 * rest).fmod 4096) t2, .int B t3, .int (B.fdiv (2 ^ Int.toNat 12)) t4, .int (B.fmod 4096) t5, .int 12 t6]
      (Gives fun o => ∃ q r t7 t8, o = { cls := .type "tuple", data := .seq #[.int q t7, .int r t8] } ∧ q * B + r = 3600 * rest ∧ 0 ≤ r ∧ r < B) := by
  have h := div3 ((3600 * rest).fdiv (2 ^ Int.toNat 12)) ((3600 * rest).fmod 4096) B (B.fdiv (2 ^ Int.toNat 12)) (B.fmod 4096) t1 t2 t3 t4 t5 t6
    (by rw [fd12]; omega) (by rw [fm12]; omega) (by rw [fm12]; omega) (by rw [fd12, fm12]; omega) (by rw [fd12]; omega) (by rw [fd12]; omega) (by rw [fm12]; omega) (by rw [fm12]; omega) (by rw [fd12]; omega)
  have e : (3600 * rest).fdiv (2 ^ Int.toNat 12) * 4096 + (3600 * rest).fmod 4096 = 3600 * rest := by rw [fd12, fm12]; omega
  rw [e] at h
  exact h
/-- the text list grows by one, in the loop over the clocks -/
theorem upd_cells {l x D2 c6 c5 c4 c3 : Addr} {ox o2 o6 o5 o4 o3 a b : Obj} {own : List (Addr × Obj)} (hx : l ≠ x) (hne : D2 ≠ l ∧ c6 ≠ l ∧ c5 ≠ l ∧ c4 ≠ l ∧ c3 ≠ l) (ho : ∀ p ∈ own, p.1 ≠ l) :
    Upd l a b ((x, ox) :: (l, a) :: (D2, o2) :: (c6, o6) :: (c5, o5) :: (c4, o4) :: (c3, o3) :: own) ((x, ox) :: (l, b) :: (D2, o2) :: (c6, o6) :: (c5, o5) :: (c4, o4) :: (c3, o3) :: own) := by
  obtain ⟨n1, n2, n3, n4, n5⟩ := hne
  refine .tail (Ne.symm hx) (.head fun p hp => ?_)
  simp only [List.mem_cons] at hp
  rcases hp with rfl | rfl | rfl | rfl | rfl | hp
  · exact n1
  · exact n2
  · exact n3
  · exact n4
  · exact n5
  · exact ho p hp
theorem stored2 {a b z : Str} (h : [a, b].contains z = false) : z ≠ a ∧ z ≠ b := by
  simpa [List.contains_cons] using h
theorem txts_end {h₀ h' : Heap} {L x l : Addr} {ox : Obj} {rest own : List (Addr × Obj)} {m' m₀ : Str → Option Value} {stored : List Str} {xk yr ts : Str} {tt : Tok} {P : List Int → Int → List Str → Prop} {pre : List Int} {k r : Int} {t : Tok} {vs : List Value} {fs : List Str} {cn : Nat} {s₁ : Shared} {tk : Nat}
    (hI : StrsAre vs fs) (F : Fr h₀ L h' m') (N : News h₀ L h' ((x, ox) :: (l, listOf (vs.toArray.push (.str ts tt)) (cn + 1)) :: rest ++ own)) (hm : m' yr = some (.int r t)) (same : ∀ z, z ≠ xk → z ≠ yr → stored.contains z = false → m' z = m₀ z)
    (hp : P (pre ++ [k]) r (fs ++ [ts])) :
    InvEndN h₀ L (KstS (fun c : Int × Nat × List Value × List Str × Nat => (l, listOf c.2.2.1.toArray c.2.2.2.2) :: rest) (fun c => [(yr, .int c.1 c.2.1)]) (fun c => StrsAre c.2.2.1 c.2.2.2.1) xk stored m₀ (fun pre c => P pre c.1 c.2.2.2.1) (pre ++ [k])) own (l :: rest.map (·.1)) s₁ { s₁ with heap := h', toks := tk } := by
  rw [List.push_toArray] at N
  refine ⟨h', tk, m', _, (l, listOf (vs ++ [Value.str ts tt]).toArray (cn + 1)) :: rest, rfl, F, N, ?_, ?_, rfl, (r, t, vs ++ [Value.str ts tt], fs ++ [ts], cn + 1), rfl, hI.append' (.cons _ _ .nil), ?_, ?_, hp⟩
  · intro p h
    exact List.mem_cons_of_mem _ (List.mem_append.mpr (.inl h))
  · intro p h
    exact List.mem_cons_of_mem _ (List.mem_append.mpr (.inr h))
  · intro p h
    rw [List.mem_singleton.mp h]
    exact hm
  · intro z h1 h2 h3
    exact same z h1 (h2 (yr, .int r t) (List.mem_singleton.mpr rfl)) h3
end Mine
end
section
open PySem PySem.W PyProof.Rows PySem.Spec PySem.Calls
namespace Mine
set_option maxRecDepth 100000
theorem dig_step (n : Nat) (hb : 10 ≤ n) (ds : List Char) : ∀ f, n < f → Nat.toDigitsCore 10 f n ds = Nat.toDigitsCore 10 (f - 1) (n / 10) (Nat.digitChar (n % 10) :: ds)
  | f + 1, _ => by
    show (if n / 10 = 0 then _ else _) = _
    rw [if_neg (by omega)]
    rfl
theorem dig_last (n : Nat) (hb : n < 10) (ds : List Char) : ∀ f, n < f → Nat.toDigitsCore 10 f n ds = Nat.digitChar (n % 10) :: ds
  | f + 1, _ => by
    show (if n / 10 = 0 then _ else _) = _
    rw [if_pos (by omega)]
theorem char_dig : ∀ d < 10, (Nat.digitChar d).toNat = 48 + d := by decide
theorem dig_ten (m d : Nat) (hd : d < 10) : (m * 10 + d) / 10 = m ∧ (m * 10 + d) % 10 = d := by omega
theorem dig_fuel (m d f : Nat) (hm : 0 < m) (h : m * 10 + d < f) : 10 ≤ m * 10 + d ∧ m < f - 1 := by omega
theorem dig_cons (m d : Nat) (hm : 0 < m) (hd : d < 10) (ds : List Char) (f : Nat) (hf : m * 10 + d < f) : Nat.toDigitsCore 10 f (m * 10 + d) ds = Nat.toDigitsCore 10 (f - 1) m (Nat.digitChar d :: ds) := by
  rw [dig_step _ (dig_fuel m d f hm hf).1 ds f hf, (dig_ten m d hd).1, (dig_ten m d hd).2]
theorem dig_pos (m d : Nat) (hm : 0 < m) : 0 < m * 10 + d := Nat.lt_of_lt_of_le (Nat.mul_pos hm (by decide)) (Nat.le_add_right _ _)
theorem digits5 (a b c d e : Nat) (ha : 0 < a) (ha' : a < 10) (hb : b < 10) (hc : c < 10) (hd : d < 10) (he : e < 10) :
    (Nat.toDigits 10 ((((a * 10 + b) * 10 + c) * 10 + d) * 10 + e)).map Char.toNat = [48 + a, 48 + b, 48 + c, 48 + d, 48 + e] := by
  have p1 := dig_pos a b ha
  have p2 := dig_pos _ c p1
  have p3 := dig_pos _ d p2
  have f0 : ((((a * 10 + b) * 10 + c) * 10 + d) * 10 + e) < ((((a * 10 + b) * 10 + c) * 10 + d) * 10 + e) + 1 := Nat.lt_succ_self _
  have f1 := (dig_fuel _ e _ p3 f0).2
  have f2 := (dig_fuel _ d _ p2 f1).2
  have f3 := (dig_fuel _ c _ p1 f2).2
  have f4 := (dig_fuel _ b _ ha f3).2
  unfold Nat.toDigits
  rw [dig_cons _ e p3 he _ _ f0, dig_cons _ d p2 hd _ _ f1, dig_cons _ c p1 hc _ _ f2, dig_cons _ b ha hb _ _ f3, dig_last _ ha' _ _ f4]
  simp only [List.map_cons, List.map_nil]
  rw [char_dig _ he, char_dig _ hd, char_dig _ hc, char_dig _ hb, Nat.mod_eq_of_lt ha', char_dig _ ha']
/-- the text of a clock -/
theorem cell_text (q : Int) (h0 : 0 ≤ q) (h1 : q < 3600) : Str.ofString (toString (10000 + q.fdiv 60 * 100 + q.fmod 60)) = ⟨#[49, 48 + q.toNat / 600, 48 + q.toNat / 60 % 10, 48 + q.toNat % 60 / 10, 48 + q.toNat % 10]⟩ := by
  obtain ⟨c, rfl⟩ := Int.eq_ofNat_of_zero_le h0
  have e : (10000 + (c : Int).fdiv 60 * 100 + (c : Int).fmod 60) = Int.ofNat (10000 + c / 60 * 100 + c % 60) := by
    rw [Int.fdiv_eq_ediv_of_nonneg _ (by decide), Int.fmod_eq_emod_of_nonneg _ (by decide)]
    show _ = ((10000 + c / 60 * 100 + c % 60 : Nat) : Int)
    omega
  have e2 : 10000 + c / 60 * 100 + c % 60 = (((1 * 10 + c / 600) * 10 + c / 60 % 10) * 10 + c % 60 / 10) * 10 + c % 10 := by omega
  rw [e, text_ofNat, e2, digits5 1 (c / 600) (c / 60 % 10) (c % 60 / 10) (c % 10) (by decide) (by decide) (by omega) (Nat.mod_lt _ (by decide)) (by omega) (Nat.mod_lt _ (by decide))]
  rfl
theorem cell_cut (a b c d : Nat) : Txt.slice ⟨#[49, a, b, c, d]⟩ (some 1) none = ⟨#[a, b, c, d]⟩ := by
  have e : Builtin.Str.strSliceIndices (some 1) none 1 5 = [1, 2, 3, 4] := by decide
  have hl : (⟨#[49, a, b, c, d]⟩ : Str).length = 5 := rfl
  unfold Txt.slice
  simp only [hl, e]
  rfl
end Mine
end
section
open PySem PySem.W PyProof.Rows PySem.Spec
namespace Mine
def menuS (q : Int) : Str := if q = 0 then Str.ofString "" else if q = 1 then Str.ofString "+" else Str.ofString "-"
/-- what _law_dressed answers -/
def drS (cell : Str) (way : Int) : Str :=
  menuS (way.fdiv 4) ++ (if 1 < way.fmod 4 ∧ (Txt.item cell 0 == Str.ofString "0") = true then Txt.slice cell (some 1) (some 2) else Txt.slice cell none (some 2)) ++ (if way.fmod 2 = 1 then Str.ofString ":" else Str.ofString "") ++ Txt.slice cell (some 2) none
theorem drS_eq {cell : Str} {way : Int} {m h c : Str} (hm : menuS (way.fdiv 4) = m) (hh : (if 1 < way.fmod 4 ∧ (Txt.item cell 0 == Str.ofString "0") = true then Txt.slice cell (some 1) (some 2) else Txt.slice cell none (some 2)) = h)
    (hc : (if way.fmod 2 = 1 then Str.ofString ":" else Str.ofString "") = c) : m ++ h ++ c ++ Txt.slice cell (some 2) none = drS cell way := by
  subst hm hh hc; rfl
theorem menu0 {q : Int} (h : q = 0) : menuS q = Str.ofString "" := by subst h; rfl
theorem menu1 {q : Int} (h : q = 1) : menuS q = Str.ofString "+" := by subst h; rfl
theorem menu2 {q : Int} (h : q = 2) : menuS q = Str.ofString "-" := by subst h; rfl
theorem hrs_a {x y : Str} {k : Int} {b : Bool} (h1 : 1 < k) (h2 : b = true) : (if 1 < k ∧ b = true then x else y) = x := if_pos ⟨h1, h2⟩
theorem hrs_b {x y : Str} {k : Int} {b : Bool} (h2 : b = false) : (if 1 < k ∧ b = true then x else y) = y := if_neg fun h => by rw [h2] at h; cases h.2
theorem hrs_c {x y : Str} {k : Int} {b : Bool} (h2 : ¬ 1 < k) : (if 1 < k ∧ b = true then x else y) = y := if_neg fun h => h2 h.1
end Mine
end
section
open PySem PySem.W PySem.Spec PySem.Calls PyProof.Rows
namespace Mine
set_option maxRecDepth 100000 in
set_option maxHeartbeats 8000000 in
theorem dress (c0 c1 c2 c3 : Nat) (way : Int) (t1 t2 : Tok) (hw : 0 ≤ way) (hw' : way < 12) : Ct 2 96 [.str ⟨#[c0, c1, c2, c3]⟩ t1, .int way t2] (fun r _ _ => ∃ tk, r = .str (drS ⟨#[c0, c1, c2, c3]⟩ way) tk) := by
  w_top off
  k_with_none
  delta Ct KK VW LS PG ar
  k_fill
  intro w mean mg mb dp un fr gd s Q E X T hd hu hret
  refine wpAny_call ?_
  k_dflt (refine' enterP ?k1 ?k2 ?k3 ?k4 ?k5 ?k6 ?k7 ?_ ?c1 ?c2 ?c3 ?c4; (case k1 => exact X); (case k2 => exact T); (case k3 => k_is); (case k4 => k_is); (case k5 => dsimp only; omega); (case k6 => exact BindsTo.of_eq rfl); (case k7 => exact locs rfl); (case c1 => exact rfl); (case c2 => exact rfl); (case c3 => exact rfl); (case c4 => decide))
  intro L' h₁ hL F'
  have N' : News s.heap L' h₁ [] := News.nil
  try dsimp only
  k_steps
  all_goals exact hret _ _ _ ⟨_, congrArg (fun x => Value.str x _) (drS_eq (by with_reducible first | exact menu0 (by assumption) | exact menu1 (by assumption) | exact menu2 (by assumption)) (by with_reducible first | exact hrs_a (by assumption) (by assumption) | exact hrs_b (by assumption) | exact hrs_c (by assumption) | exact hrs_c (Int.not_lt.mpr (by assumption))) (by with_reducible first | exact if_pos (by assumption) | exact if_neg (by assumption)))⟩ (fr_keep (by assumption))
end Mine
end
section
open PySem PySem.W PySem.Spec PySem.Calls PyProof.Rows
namespace Mine
theorem fr_put {h₀ h : Heap} {L : Addr} {M : Str → Option Value} {x : Str} {v : Option Value} (F : Fr h₀ L h M) (e : M x = v) : Fr h₀ L h (fun y => if y = x then v else M y) := by
  have : (fun y => if y = x then v else M y) = M := by
    funext y
    by_cases hy : y = x
    · rw [if_pos hy, hy, e]
    · rw [if_neg hy]
  rw [this]
  exact F
/-- the ways -/
def wayI (a : Int) (i : Nat) : Int := (a + 5 * (i : Int)).fmod 12
theorem way_rng (a : Int) (i : Nat) : 0 ≤ wayI a i ∧ wayI a i < 12 := ⟨Int.fmod_nonneg_of_pos _ (by decide), Int.fmod_lt_of_pos _ (by decide)⟩
def wayL (a : Int) (n : Nat) : List Int := (List.range n).map (wayI a)
theorem wayL_len (a : Int) (n : Nat) : (wayL a n).length = n := by simp [wayL]
theorem wayL_get (a : Int) {n i : Nat} (hi : i < n) : (wayL a n).getD i 0 = wayI a i := by simp [wayL, List.getD, hi]
theorem cells_len (p z : Int) (n : Nat) : (cells p z n).length = n := by simp [cells]
theorem cells_get (p z : Int) {n i : Nat} (hi : i < n) : (cells p z n).getD i PySem.Str.empty = celS (ckI p z i).toNat := by simp [cells, List.getD, hi]
theorem zk_back {p z : Int} (hp : p = 23 ∨ p = 47 ∨ p = 19) (h0 : 1 ≤ z) (h1 : z < p) : zk p z ((p - 1) / 2).toNat = z := by
  obtain ⟨n, rfl⟩ := Int.eq_ofNat_of_zero_le (show 0 ≤ z by omega)
  have key1 : ∀ n < 23, zk 23 (n : Nat) 11 = (n : Nat) := by decide +kernel
  have key2 : ∀ n < 47, zk 47 (n : Nat) 23 = (n : Nat) := by decide +kernel
  have key3 : ∀ n < 19, zk 19 (n : Nat) 9 = (n : Nat) := by decide +kernel
  rcases hp with rfl | rfl | rfl
  · exact key1 n (by omega)
  · exact key2 n (by omega)
  · exact key3 n (by omega)
theorem strs_at {vs : List Value} {fs : List Str} (hi : StrsAre vs fs) {k : Nat} (hk : k < fs.length) : ∃ t, vs[k]? = some (.str (fs.getD k PySem.Str.empty) t) := by
  induction hi generalizing k with
  | nil => exact absurd hk (Nat.not_lt_zero _)
  | cons x t r ih =>
    cases k with
    | zero => exact ⟨t, rfl⟩
    | succ k => exact ih (Nat.lt_of_succ_lt_succ hk)
section
variable {prog : Program} {w : World} {A : Around} {E : Value → Shared → Prop} {s : Shared} {h₀ : Heap} {L : Addr} {news : List (Addr × Obj)}
/-- a text out of a list of texts of the ledger -/
theorem item_tx {value slice : PySem.Expr} {D : Addr} {vs : List Value} {cn : Nat} {ns : List Str} {k : Int} {u : Tok} {Q : Value → Shared → Prop}
    (N : News h₀ L s.heap news) (hm : (D, ({ cls := .type "list", data := .seq vs.toArray cn } : Obj)) ∈ news) (hi : StrsAre vs ns) (h0 : 0 ≤ k) (h1 : k < (ns.length : Int)) (hs : ns.length < 2 ^ 62) (h : ∀ t, Q (.str (ns.getD k.toNat PySem.Str.empty) t) s)
    (hsub : subscripted slice false (.ref D) (.int k u) = operate [.ref D, .int k u] (getItem (.ref D) (.int k u)) := by with_unfolding_all rfl) :
    wpAny (model prog w) A (subscriptTail value slice (.ref D) (.int k u)) Q E s := by
  obtain ⟨t, e⟩ := strs_at hi (k := k.toNat) (by omega)
  have hl : s.heap.IsList D vs.toArray := ⟨_, (N _ hm).1, rfl, _, rfl⟩
  exact tail_any hl.typeIs slot_list_getitem.lookup (wpAny_getItem_list hl h0 (by omega) (by simpa using e) (h t)) hsub
end
/-- a clock dressed -/
def drI (p z a : Int) (i : Nat) : Str := drS (celS (ckI p z i).toNat) (wayI a i)
theorem dressx (p z a : Int) (i : Nat) (x : Str) (wy : Int) (t1 t2 : Tok) (hx : x = celS (ckI p z i).toNat) (hw : wy = wayI a i) : Ct 2 96 [.str x t1, .int wy t2] (fun r _ _ => ∃ tk, r = .str (drI p z a i) tk) := by
  subst hx hw
  exact dress _ _ _ _ _ t1 t2 (way_rng a i).1 (way_rng a i).2
end Mine
end
section
open PySem PySem.W PySem.Spec PySem.Calls PyProof.Rows
namespace Mine
theorem strs_of {ys : List Value} {g : Nat → Str} : ∀ {n : Nat}, ys.length = n → (∀ i, i < n → ∃ y, ys[i]? = some y ∧ ∃ t, y = .str (g i) t) → StrsAre ys ((List.range n).map g) := by
  intro n
  induction n generalizing ys with
  | zero => intro hl _; obtain rfl := List.length_eq_zero_iff.mp hl; exact .nil
  | succ n ih =>
    intro hl h
    obtain ⟨y, hy, t, e⟩ := h n (Nat.lt_succ_self n)
    have hd : ys = ys.take n ++ [y] := by
      rw [List.getElem?_eq_some_iff] at hy
      obtain ⟨hb, hy⟩ := hy
      have := List.take_append_getElem (l := ys) (i := n) hb
      rw [← hy, this, List.take_of_length_le (by omega)]
    rw [hd, List.range_succ, List.map_append]
    refine StrsAre.append' (ih (by rw [List.length_take]; omega) fun i hi => ?_) (by subst e; exact .cons _ _ .nil)
    obtain ⟨y', h1, h2⟩ := h i (by omega)
    exact ⟨y', by rw [List.getElem?_take, if_pos hi]; exact h1, h2⟩
def drL (p z a : Int) (n : Nat) : List Str := (List.range n).map (drI p z a)
theorem drL_len (p z a : Int) (n : Nat) : (drL p z a n).length = n := by simp [drL]
section
variable {n : Nat} {f : Addr} {vs : List Value} {R : Value → Heap → Heap → Prop} {w : World} {mean : ExcName → Option Value} {mg mb : Str → Option Value} {dp un : Nat} {fr : Option (List Env)} {gd : Option (List Code)} {s : Shared} {Q E : Value → Shared → Prop}
    {h₀ : Heap} {L : Addr} {m : Str → Option Value} {news : List (Addr × Obj)}
theorem CtI.use (C : CtI n f vs R) (F : Fr h₀ L s.heap m) (X : (hd.heap_39 w.params).In h₀) (N : News h₀ L s.heap news)
    (T : Top hd.view_39 (looseW hd.view_39 [Str.ofString "UTC_ZONES", Str.ofString "TIMEZONE_RE", Str.ofString "Flags"]) mean mg mb h₀) (hd : dp + n < recursionLimit) (hu : un + 500 + 10 * n < cLine)
    (h : ∀ r h' tk', R r s.heap h' → Fr h₀ L h' m → News h₀ L h' news → Q r { s with heap := h', toks := tk' }) :
    wpI (model PySem.Challenge.rw_zo0004_01.row.prog w) (ar dp un fr gd) (call (.ref f) vs) Q E s :=
  C w mean mg mb dp un fr gd s Q E (X.keeps F.keep) (T.keeps F.keep) hd hu fun r h' tk' hR k => h r h' tk' hR (fr_keeps F k) (news_keeps N k)
end
theorem news_tail {h₀ h : Heap} {L : Addr} {a : Addr × Obj} {r : List (Addr × Obj)} (N : News h₀ L h (a :: r)) : News h₀ L h r := fun p hp => N p (List.mem_cons_of_mem _ hp)
theorem news_drop5 {h₀ h : Heap} {L : Addr} {a b c d e f : Addr × Obj} (N : News h₀ L h [a, b, c, d, e, f]) : News h₀ L h [b, c, d, f] := fun p hp => N p (by
  simp only [List.mem_cons, List.not_mem_nil, or_false] at hp ⊢
  rcases hp with h | h | h | h <;> simp [h])
end Mine
end
section
open PySem PySem.Sre
namespace Mine
def tzCode : Array Nat := #[14, 4, 0, 1, 6, 6, 0, 23, 14, 0, 1, 17, 0, 13, 6, 16, 45, 16, 43, 0, 17, 1, 18, 17, 2, 13, 4, 8, 0, 0, 24, 9, 0, 1, 13, 4, 8, 0, 0, 1, 17, 3, 24, 6, 0, 1, 16, 58, 1, 23, 17, 0, 1, 17, 4, 13, 4, 8, 0, 0, 13, 4, 8, 0, 0, 17, 5, 18, 6, 5, 1]
def clsC (c : Nat) : Nat := if isDigit c then 48 else c
theorem clsC_digit (c : Nat) : isDigit (clsC c) = isDigit c := by
  unfold clsC
  cases h : isDigit c with
  | true => rfl
  | false => simpa using h
theorem clsC_ne {c k : Nat} (hk : isDigit k = false) : (clsC c == k) = (c == k) := by
  unfold clsC
  cases h : isDigit c with
  | true =>
    have h1 : c ≠ k := by rintro rfl; rw [h] at hk; cases hk
    have h2 : (48 : Nat) ≠ k := by rintro rfl; exact absurd hk (by decide)
    rw [if_pos rfl, beq_eq_false_iff_ne.mpr h1, beq_eq_false_iff_ne.mpr h2]
  | false => simp
abbrev Tx (t : Array Nat) (m : M) : M := { m with text := t }
def stabPC : List Nat := [13, 25, 34, 46, 55, 60]
theorem acc_digit (pc : Nat) (h : pc = 25 ∨ pc = 34 ∨ pc = 55 ∨ pc = 60) (c : Nat) (sn : Seen) : accepts tzCode pc c sn = if (isDigit c != false) = true then .ok (true, (sn.add 8).add 55) else .ok (false, ((sn.add 8).add 55).add 0) := by
  rcases h with rfl | rfl | rfl | rfl <;> rfl
theorem acc_sign (c : Nat) (sn : Seen) : accepts tzCode 13 c sn = if (c == 45) = true then .ok (true, sn.add 16) else if (c == 43) = true then .ok (true, (sn.add 16).add 16) else .ok (false, ((sn.add 16).add 16).add 0) := by
  rfl
theorem acc_colon (c : Nat) (sn : Seen) : accepts tzCode 46 c sn = .ok (c == 58, sn) := rfl
theorem acc_stab {pc : Nat} (h : pc ∈ stabPC) (c : Nat) (sn : Seen) : accepts tzCode pc c sn = accepts tzCode pc (clsC c) sn := by
  simp only [stabPC, List.mem_cons, List.not_mem_nil, or_false] at h
  rcases h with rfl | rfl | rfl | rfl | rfl | rfl
  · rw [acc_sign, acc_sign, clsC_ne (by decide), clsC_ne (by decide)]
  · rw [acc_digit _ (by decide), acc_digit _ (by decide), clsC_digit]
  · rw [acc_digit _ (by decide), acc_digit _ (by decide), clsC_digit]
  · rw [acc_colon, acc_colon, clsC_ne (by decide)]
  · rw [acc_digit _ (by decide), acc_digit _ (by decide), clsC_digit]
  · rw [acc_digit _ (by decide), acc_digit _ (by decide), clsC_digit]
theorem getD_cls {t r : Array Nat} (h : t.map clsC = r) (i : Nat) : clsC (t.getD i 0) = r.getD i 0 := by
  subst h
  by_cases hi : i < t.size
  · simp [Array.getD, hi]
  · simp only [Array.getD, Array.size_map, dif_neg hi]
    rfl
theorem acc_text {t r : Array Nat} (h : t.map clsC = r) {pc : Nat} (hp : pc ∈ stabPC) (i : Nat) (sn : Seen) : accepts tzCode pc (t.getD i 0) sn = accepts tzCode pc (r.getD i 0) sn := by
  rw [acc_stab hp, getD_cls h]
theorem run_text {t r : Array Nat} (h : t.map clsC = r) {pc : Nat} (hp : pc ∈ stabPC) : ∀ (n p f : Nat) (sn : Seen), Sre.run tzCode t pc n p f sn = Sre.run tzCode r pc n p f sn
  | 0, _, _, _ => rfl
  | n + 1, p, f, sn => by
    unfold Sre.run
    rw [acc_text h hp]
    cases accepts tzCode pc (r.getD p 0) sn with
    | error e => rfl
    | ok v =>
      obtain ⟨y, sn'⟩ := v
      cases y with
      | true => exact run_text h hp n _ _ _
      | false => rfl

def goodM (r : Array Nat) (m : M) : Bool :=
  decide (m.code = tzCode) && decide (m.text = r) && match m.answer with
  | some _ => (match m.frames with
    | [] => true
    | f :: _ => match f.wait with
      | .nextStart | .giveBack | .closeLoop | .maxBelow | .maxMore | .maxTail => true
      | _ => false)
  | none => match ops[m.word 0]? with
    | some .AT => m.word 1 == 0 || m.word 1 == 5
    | some .REPEAT | some .MARK | some .MAX_UNTIL | some .SUCCESS => true
    | some .IN | some .LITERAL => stabPC.contains m.pc
    | some .REPEAT_ONE => stabPC.contains (m.pc + 4)
    | _ => false
section
variable {t : Array Nat} {m : M}
theorem tx_attempt (f : Sre.Frame) (a b : Nat) (o : Bool) : (Tx t m).attempt f a b o = Tx t (m.attempt f a b o) := by
  unfold M.attempt
  show (if m.weight + 1 + f.kept.marks.size > 16777216 then _ else _) = _
  split <;> rfl
theorem tx_afterRun (wt : Wait) (c : Int) (k : Sre.Kept) : (Tx t m).afterRun wt c k = Tx t (m.afterRun wt c k) := tx_attempt _ _ _ _
theorem tx_round (wt : Wait) (i : Nat) (c : Int) (g : Bool) (k : Sre.Kept) : (Tx t m).round wt i c g k = Tx t (m.round wt i c g k) := by
  unfold M.round
  exact tx_attempt (m := m.setLoop i fun l => { l with count := c, began := if g = true then some m.pos else l.began }) _ _ _ _
theorem tx_afterLoop (wt : Wait) (i : Nat) (c : Int) (wh : Option Nat → Bool) : (Tx t m).afterLoop wt i c wh = Tx t (m.afterLoop wt i c wh) := by
  unfold M.afterLoop
  exact tx_attempt (m := { m with inner := (m.loopAt i).outer }) _ _ _ _
theorem tx_until (g : Bool) : (Tx t m).until_ g = Tx t (m.until_ g) := by
  unfold M.until_
  show (match m.inner with | none => _ | some i => _) = _
  cases m.inner with
  | none => rfl
  | some i =>
    dsimp only
    show (if (m.loopAt i).count + 1 < ((m.code.getD ((m.loopAt i).pc + 2) 0 : Nat) : Int) then _ else if (!g) = true then _ else if _ then _ else _) = _
    split
    · exact tx_round _ _ _ _ _
    · split
      · exact tx_afterLoop _ _ _ _
      · show (if ((decide ((m.loopAt i).count + 1 < ((m.code.getD ((m.loopAt i).pc + 3) 0 : Nat) : Int)) || (m.code.getD ((m.loopAt i).pc + 3) 0 == maxRepeat)) && (m.loopAt i).began != some m.pos) = true then _ else _) = _
        split
        · exact tx_round _ _ _ _ _
        · exact tx_afterLoop _ _ _ _
theorem tx_putBack (k : Sre.Kept) : (Tx t m).putBack k = Tx t (m.putBack k) := rfl
theorem tx_mark (i : Nat) : (Tx t m).mark i = Tx t (m.mark i) := rfl
end
end Mine
end
section
open PySem PySem.Sre
namespace Mine
section
variable {t r : Array Nat} {m : M}
theorem exec_mark (h : ops[m.word 0]? = some .MARK) : (Tx t m).exec = Tx t m.exec := by
  have h' : ops[(Tx t m).word 0]? = some .MARK := h
  unfold M.exec
  rw [h, h']
  rfl
theorem exec_until (h : ops[m.word 0]? = some .MAX_UNTIL) : (Tx t m).exec = Tx t m.exec := by
  have h' : ops[(Tx t m).word 0]? = some .MAX_UNTIL := h
  unfold M.exec
  rw [h, h']
  exact tx_until (m := { m with seen := m.seen.add (m.word 0), pc := m.pc + 1 }) true
theorem exec_repeat (h : ops[m.word 0]? = some .REPEAT) : (Tx t m).exec = Tx t m.exec := by
  have h' : ops[(Tx t m).word 0]? = some .REPEAT := h
  unfold M.exec
  rw [h, h']
  exact tx_attempt (m := { m with seen := m.seen.add (m.word 0), loops := m.loops.push { pc := m.pc, outer := m.inner }, inner := some m.loops.size }) _ _ _ _
theorem exec_success (h : ops[m.word 0]? = some .SUCCESS) : (Tx t m).exec = Tx t m.exec := by
  have h' : ops[(Tx t m).word 0]? = some .SUCCESS := h
  unfold M.exec
  rw [h, h']
  dsimp only
  split <;> rfl
theorem isAt_text (ht : t.map clsC = m.text) {k : Nat} (hk : k = 0 ∨ k = 5) : (Tx t m).isAt k = m.isAt k := by
  rcases hk with rfl | rfl
  · rfl
  · show Except.ok (m.pos == m.lim || (m.pos + 1 == m.lim && t.getD m.pos 0 == 10)) = Except.ok (m.pos == m.lim || (m.pos + 1 == m.lim && m.text.getD m.pos 0 == 10))
    rw [← getD_cls ht, clsC_ne (by decide)]
theorem exec_at (ht : t.map clsC = m.text) (h : ops[m.word 0]? = some .AT) (hk : m.word 1 = 0 ∨ m.word 1 = 5) : (Tx t m).exec = Tx t m.exec := by
  have h' : ops[(Tx t m).word 0]? = some .AT := h
  unfold M.exec
  rw [h, h']
  have e := isAt_text (m := { m with seen := m.seen.add (m.word 0) }) (t := t) ht hk
  dsimp only at e ⊢
  show (match (Tx t { m with seen := m.seen.add (m.word 0) }).isAt (m.word 1) with | .error why => _ | .ok yes => _) = Tx t (match M.isAt { m with seen := m.seen.add (m.word 0) } (m.word 1) with | .error why => _ | .ok yes => _)
  rw [e]
  cases M.isAt { m with seen := m.seen.add (m.word 0) } (m.word 1) with
  | error e => rfl
  | ok y => cases y <;> rfl
theorem exec_one {op : Op} (hop : op = .IN ∨ op = .LITERAL) (ht : t.map clsC = m.text) (hc : m.code = tzCode) (h : ops[m.word 0]? = some op) (hp : m.pc ∈ stabPC) : (Tx t m).exec = Tx t m.exec := by
  have h' : ops[(Tx t m).word 0]? = some op := h
  have key : (if m.pos ≥ m.lim then (Tx t { m with seen := m.seen.add (m.word 0) }).say false else
      match accepts m.code m.pc (t.getD m.pos 0) (m.seen.add (m.word 0)) with
      | .error why => (Tx t { m with seen := m.seen.add (m.word 0) }).stick why
      | .ok (false, seen) => M.say { (Tx t m) with seen } false
      | .ok (true, seen) => { (Tx t m) with seen, pc := m.pc + itemWidth m.code m.pc, pos := m.pos + 1 }) = Tx t (if m.pos ≥ m.lim then M.say { m with seen := m.seen.add (m.word 0) } false else
      match accepts m.code m.pc (m.text.getD m.pos 0) (m.seen.add (m.word 0)) with
      | .error why => M.stick { m with seen := m.seen.add (m.word 0) } why
      | .ok (false, seen) => M.say { m with seen } false
      | .ok (true, seen) => { m with seen, pc := m.pc + itemWidth m.code m.pc, pos := m.pos + 1 }) := by
    have ha : accepts m.code m.pc (t.getD m.pos 0) (m.seen.add (m.word 0)) = accepts m.code m.pc (m.text.getD m.pos 0) (m.seen.add (m.word 0)) := by
      rw [hc]
      exact acc_text ht hp _ _
    rw [ha]
    split
    · rfl
    · cases accepts m.code m.pc (m.text.getD m.pos 0) (m.seen.add (m.word 0)) with
      | error e => rfl
      | ok v =>
        obtain ⟨y, sn⟩ := v
        cases y <;> rfl
  unfold M.exec
  rw [h, h']
  rcases hop with rfl | rfl
  · exact key
  · exact key
theorem exec_rep (ht : t.map clsC = m.text) (hc : m.code = tzCode) (h : ops[m.word 0]? = some .REPEAT_ONE) (hp : m.pc + 4 ∈ stabPC) : (Tx t m).exec = Tx t m.exec := by
  have h' : ops[(Tx t m).word 0]? = some .REPEAT_ONE := h
  have key : (if ((m.word 2 : Nat) : Int) > (m.lim : Int) - m.pos then (Tx t { m with seen := m.seen.add (m.word 0) }).say false else
      match Sre.run m.code t (m.pc + 4) (min (m.word 3) ((m.lim : Int) - m.pos).toNat) m.pos 0 ((m.seen.add (m.word 0)).add (m.word 4)) with
      | .error why => (Tx t { m with seen := m.seen.add (m.word 0) }).stick why
      | .ok (n, seen) =>
        if n < m.word 2 then M.say { (Tx t m) with seen } false else M.afterRun { (Tx t m) with seen, pos := m.pos + n } .giveBack n (m.keep m.inner.isSome)) = Tx t (if ((m.word 2 : Nat) : Int) > (m.lim : Int) - m.pos then M.say { m with seen := m.seen.add (m.word 0) } false else
      match Sre.run m.code m.text (m.pc + 4) (min (m.word 3) ((m.lim : Int) - m.pos).toNat) m.pos 0 ((m.seen.add (m.word 0)).add (m.word 4)) with
      | .error why => M.stick { m with seen := m.seen.add (m.word 0) } why
      | .ok (n, seen) =>
        if n < m.word 2 then M.say { m with seen } false else M.afterRun { m with seen, pos := m.pos + n } .giveBack n (m.keep m.inner.isSome)) := by
    have ha : ∀ n p f sn, Sre.run m.code t (m.pc + 4) n p f sn = Sre.run m.code m.text (m.pc + 4) n p f sn := fun n p f sn => by
      rw [hc]
      exact run_text ht hp _ _ _ _
    rw [ha]
    split
    · rfl
    · cases Sre.run m.code m.text (m.pc + 4) (min (m.word 3) ((m.lim : Int) - m.pos).toNat) m.pos 0 ((m.seen.add (m.word 0)).add (m.word 4)) with
      | error e => rfl
      | ok v =>
        obtain ⟨n, sn⟩ := v
        dsimp only
        split
        · rfl
        · exact tx_afterRun (m := { m with seen := sn, pos := m.pos + n }) _ _ _
  unfold M.exec
  rw [h, h']
  exact key
theorem attemptFrom_text (hc : m.code = tzCode) (s : Nat) (b : Bool) : (Tx t m).attemptFrom s b = Tx t (m.attemptFrom s b) := by
  have h2 : m.hasFirstSet = false := by
    unfold M.hasFirstSet
    rw [hc]
    rfl
  have h1 : (Tx t m).hasFirstSet = false := h2
  unfold M.attemptFrom
  rw [h1, h2]
  unfold M.attemptAt
  exact tx_attempt (m := { m with start := s, pos := s, lastmark := -1, lastindex := -1 }) _ _ _ _
theorem resume_text {f : Sre.Frame} {yes : Bool} (hc : m.code = tzCode) (hw : match f.wait with | .nextStart | .giveBack | .closeLoop | .maxBelow | .maxMore | .maxTail => True | _ => False) : (Tx t m).resume f yes = Tx t (m.resume f yes) := by
  unfold M.resume
  cases hwt : f.wait with
  | nextStart =>
    dsimp only
    cases yes with
    | true => rfl
    | false =>
      show (if f.pos < m.lastStart then M.attemptFrom { (Tx t m) with mustAdvance := false } (f.pos + 1) false else _) = Tx t (if f.pos < m.lastStart then M.attemptFrom { m with mustAdvance := false } (f.pos + 1) false else _)
      split
      · exact attemptFrom_text (m := { m with mustAdvance := false }) hc _ _
      · rfl
  | giveBack =>
    dsimp only
    cases yes with
    | true => rfl
    | false =>
      show (if f.count - 1 < ((m.word 2 : Nat) : Int) then _ else _) = Tx t (if f.count - 1 < ((m.word 2 : Nat) : Int) then _ else _)
      split
      · rfl
      · exact tx_afterRun (m := { m.putBack f.kept with pos := f.pos - 1 }) _ _ _
  | closeLoop => rfl
  | maxBelow => cases yes <;> rfl
  | maxMore =>
    dsimp only
    cases yes with
    | true => rfl
    | false =>
      simp only [Bool.false_eq_true, if_false]
      exact tx_afterLoop (m := ((m.setLoop f.loop fun l => { l with began := f.began }).putBack f.kept).setLoop f.loop fun l => { l with count := f.count - 1 }) _ _ _ _
  | maxTail => rfl
  | _ => rw [hwt] at hw; exact hw.elim
theorem step_text (hg : goodM r m = true) (ht : t.map clsC = r) : (Tx t m).step = Tx t m.step := by
  unfold goodM at hg
  simp only [Bool.and_eq_true, decide_eq_true_eq] at hg
  obtain ⟨⟨hc, hr⟩, hg⟩ := hg
  rw [← hr] at ht
  unfold M.step
  show (if m.outcome.isSome = true then _ else match m.answer, m.frames with | some yes, [] => _ | some yes, f :: rest => _ | none, _ => _) = Tx t (if m.outcome.isSome = true then _ else _)
  split
  · rfl
  · cases ha : m.answer with
    | some yes =>
      rw [ha] at hg
      cases hf : m.frames with
      | nil => rfl
      | cons f rest =>
        rw [hf] at hg
        dsimp only at hg ⊢
        refine resume_text (m := { m with answer := none, frames := rest, weight := m.weight - (1 + f.kept.marks.size), pc := f.pc, pos := f.pos, outermost := f.outermost }) hc ?_
        revert hg
        cases f.wait <;> simp
    | none =>
      rw [ha] at hg
      dsimp only at hg ⊢
      show (if m.pc < m.code.size then (Tx t m).exec else _) = Tx t (if m.pc < m.code.size then m.exec else _)
      split
      · cases ho : ops[m.word 0]? with
        | none => rw [ho] at hg; cases hg
        | some op =>
          rw [ho] at hg
          cases op with
          | AT => exact exec_at ht ho (by simpa using hg)
          | REPEAT => exact exec_repeat ho
          | MARK => exact exec_mark ho
          | MAX_UNTIL => exact exec_until ho
          | SUCCESS => exact exec_success ho
          | IN => exact exec_one (.inl rfl) ht hc ho (by simpa using hg)
          | LITERAL => exact exec_one (.inr rfl) ht hc ho (by simpa using hg)
          | REPEAT_ONE => exact exec_rep ht hc ho (by simpa using hg)
          | _ => cases hg
      · rfl
def goodRun (r : Array Nat) : Nat → M → Bool
  | 0, _ => true
  | n + 1, m => m.outcome.isSome || (goodM r m && goodRun r n m.step)
theorem run_same (ht : t.map clsC = r) : ∀ (n : Nat) (m : M), goodRun r n m = true → M.runFor n (Tx t m) = Tx t (M.runFor n m)
  | 0, _, _ => rfl
  | n + 1, m, h => by
    unfold M.runFor
    show (if m.outcome.isSome = true then _ else _) = Tx t (if m.outcome.isSome = true then _ else _)
    unfold goodRun at h
    split
    · rfl
    · rename_i ho
      simp only [Bool.not_eq_true] at ho
      rw [ho, Bool.false_or, Bool.and_eq_true] at h
      rw [step_text h.1 ht]
      exact run_same ht n _ h.2
end
end Mine
end
section
open PySem PySem.Sre PySem.W
namespace Mine
/-- what reNewMatch makes of the marks -/
def spansOf (groups : Nat) (m : M) : List Int := (List.range groups).flatMap fun g =>
    match if ((2 * g + 1 : Nat) : Int) ≤ m.lastmark then (m.marks.getD (2 * g) none, m.marks.getD (2 * g + 1) none) else (none, none) with
    | (some b, some e) => [(b : Int), (e : Int)]
    | _ => [-1, -1]
def wrongOf (groups : Nat) (m : M) : Bool := (List.range groups).any (fun g => match m.marks.getD (2 * g) none, m.marks.getD (2 * g + 1) none with | some b, some e => ((2 * g + 1 : Nat) : Int) ≤ m.lastmark && e < b | _, _ => false)
def isMatched (m : M) : Bool := match m.outcome with | some .matched => true | _ => false
/-- the texts of a time zone: a sign (0 none, 1 plus, 2 minus), one or two digits of hours, a colon or none, two digits -/
def tzShape (sg hd co : Nat) : List Nat := (if sg = 1 then [43] else if sg = 2 then [45] else []) ++ List.replicate hd 48 ++ (if co = 1 then [58] else []) ++ [48, 48]
def tzSpans (sg hd co : Nat) : List Int :=
  let a : Nat := if sg = 0 then 0 else 1
  (if sg = 0 then [-1, -1] else [0, 1]) ++ ([(a : Int), ((a + hd : Nat) : Int)] ++ [((a + hd + co : Nat) : Int), ((a + hd + co + 2 : Nat) : Int)])
def tzStart (r : List Nat) : M := forSearch tzCode r.toArray 3 0 r.length false
def tzGood (sg hd co : Nat) : Bool :=
  let r := tzShape sg hd co
  let m := M.runFor 400 (tzStart r)
  goodRun r.toArray 400 (tzStart r) && isMatched m && spansOf 3 m == tzSpans sg hd co && !wrongOf 3 m && decide (m.start = 0) && decide (m.handed = r.length)
set_option maxRecDepth 100000 in
theorem tz_good : ∀ sg ∈ [0, 1, 2], ∀ hd ∈ [1, 2], ∀ co ∈ [0, 1], tzGood sg hd co = true := by decide +kernel
end Mine
end
section
open PySem PySem.Sre PySem.W PySem.Calls PySem.Spec PyProof.Rows
set_option maxRecDepth 100000
namespace Mine
open Builtin Builtin.Re
theorem run_done {m : M} (h : m.outcome.isSome = true) : ∀ n, M.runFor n m = m
  | 0 => rfl
  | n + 1 => by
    unfold M.runFor
    rw [if_pos h]
theorem run_succ (n : Nat) (m : M) : M.runFor (n + 1) m = if m.outcome.isSome = true then m else M.runFor n m.step := rfl
theorem run_add (a b : Nat) : ∀ m : M, M.runFor (a + b) m = M.runFor b (M.runFor a m) := by
  induction a with
  | zero => intro m; rw [Nat.zero_add]; rfl
  | succ a ih =>
    intro m
    rw [show a + 1 + b = (a + b) + 1 by omega, run_succ, run_succ]
    by_cases h : m.outcome.isSome = true
    · rw [if_pos h, if_pos h, run_done h]
    · rw [if_neg h, if_neg h]
      exact ih m.step
section
variable {M' : Model} {prog : Program} {w : World} {A : Around} {E : Value → Shared → Prop} {s : Shared}
theorem wp_drive {Q : M → Shared → Prop} : ∀ (T k : Nat) (m : M), k ≤ T → 1 ≤ k → (M.runFor (4 * k) m).outcome.isSome = true → Q (M.runFor (4 * k) m) s → wpAny M' A (reDrive T m) Q E s := by
  intro T
  induction T with
  | zero => intro k m h1 h2; omega
  | succ T ih =>
    intro k m h1 h2 ho hq
    unfold reDrive
    show wpAny M' A (if (M.runFor 4 m).outcome.isSome = true then pure (M.runFor 4 m) else _) Q E s
    have e : M.runFor (4 * k) m = M.runFor (4 * (k - 1)) (M.runFor 4 m) := by rw [← run_add]; congr 1; omega
    by_cases h : (M.runFor 4 m).outcome.isSome = true
    · rw [if_pos h]
      rw [e, run_done h] at hq
      exact wpAny_pure hq
    · rw [if_neg h]
      have hk : 1 ≤ k - 1 := by
        rcases Nat.lt_or_ge 1 k with h' | h'
        · omega
        · have : k = 1 := by omega
          subst this
          exact absurd ho h
      rw [e] at ho hq
      exact wpAny_bind (wpAny_rule (ih (k - 1) _ (by omega) hk ho hq))
theorem wp_toEnd {Q : Option M → Shared → Prop} {m : M} (k : Nat) (hk : 1 ≤ k) (hk' : k ≤ 1000000) (ho : isMatched (M.runFor (4 * k) m) = true) (hq : Q (some (M.runFor (4 * k) m)) s) : wpAny M' A (reRunToEnd m) Q E s := by
  have hs : (M.runFor (4 * k) m).outcome.isSome = true := by
    unfold isMatched at ho
    cases h : (M.runFor (4 * k) m).outcome with
    | none => rw [h] at ho; cases ho
    | some _ => rfl
  unfold reRunToEnd
  have hT : ∀ T : Nat, k ≤ T → ∀ GG : M → Shared → Prop, GG (M.runFor (4 * k) m) s → wpAny M' A (reDrive T m) GG E s := fun T hT GG hg => wp_drive T k m hT hk hs hg
  refine wpAny_bind (hT _ (Nat.le_trans hk' (by decide)) _ ?_)
  refine wpAny_bind (wpAny_forIn_list _ (fun _ _ s' => s' = s) _ (fun x rest b s' e => ?_) (fun b s' e => ?_) _ _ rfl)
  · subst e
    split
    · exact wpAny_bind (wpAny_rule (wpAny_pure rfl))
    · exact wpAny_pure rfl
  · subst e
    unfold isMatched at ho
    cases h : (M.runFor (4 * k) m).outcome with
    | none => rw [h] at ho; cases ho
    | some o =>
      rw [h] at ho
      cases o with
      | matched => dsimp only; exact wpAny_pure hq
      | _ => cases ho
abbrev matObj (str pat : Value) (pos lim li : Int) (Tp : Addr) : Obj := { cls := .type "re.Match", data := .fields #[str, pat, rawInt pos, rawInt lim, rawInt li, .ref Tp] }
abbrev tupObj (vs : List Value) : Obj := { cls := .type "tuple", data := .seq vs.toArray }
theorem spans_eq (g : Nat) (m : M) : ((List.range g).flatMap fun g =>
    match if ((2 * g + 1 : Nat) : Int) ≤ m.lastmark then (m.marks.getD (2 * g) none, m.marks.getD (2 * g + 1) none) else (none, none) with
    | (some b, some e) => [rawInt b, rawInt e]
    | _ => [rawInt (-1), rawInt (-1)]) = (spansOf g m).map rawInt := by
  unfold spansOf
  rw [List.map_flatMap]
  congr 1
  funext g
  split <;> simp_all
theorem wp_newMatch {Q : Value → Shared → Prop} {pat str : Value} {g pos lim : Nat} {m : M} (hw : wrongOf g m = false) (hg : g ≤ 10)
    (h : ∀ X Tp h', s.heap.get? X = none → s.heap.get? Tp = none → X ≠ Tp → h'.get? X = some (matObj str pat pos lim m.lastindex Tp) → h'.get? Tp = some (tupObj (rawInt m.start :: rawInt m.handed :: (spansOf g m).map rawInt)) →
      (∀ a o, s.heap.get? a = some o → h'.get? a = some o) → Q (.ref X) { s with heap := h' }) :
    wpAny M' A (reNewMatch pat str g pos lim m) Q E s := by
  unfold reNewMatch
  refine bm_if_false hw ?_
  have hlen : (spansOf g m).length = 2 * g := by
    unfold spansOf
    rw [List.length_flatMap]
    have : ∀ l : List Nat, (l.map fun g => (match if ((2 * g + 1 : Nat) : Int) ≤ m.lastmark then (m.marks.getD (2 * g) none, m.marks.getD (2 * g + 1) none) else (none, none) with
      | (some b, some e) => [(b : Int), (e : Int)]
      | _ => [-1, -1]).length).sum = 2 * l.length := by
      intro l
      induction l with
      | nil => rfl
      | cons a l ih =>
        rw [List.map_cons, List.sum_cons, ih, List.length_cons]
        have : (match if ((2 * a + 1 : Nat) : Int) ≤ m.lastmark then (m.marks.getD (2 * a) none, m.marks.getD (2 * a + 1) none) else (none, none) with
          | (some b, some e) => [(b : Int), (e : Int)]
          | _ => [-1, -1]).length = 2 := by split <;> rfl
        rw [this]
        omega
    exact (this _).trans (by rw [List.length_range])
  have hle : (rawInt m.start :: rawInt m.handed :: (spansOf g m).map rawInt).length ≤ sizeLine := by
    simp only [List.length_cons, List.length_map, hlen, sizeLine_eq]
    omega
  refine wpAny_bind (wpAny_newTuple ?_ (Nat.le_trans (Nat.le_of_eq (congrArg (fun l : List Value => (rawInt m.start :: rawInt m.handed :: l).length) (spans_eq g m))) hle))
  unfold newFields
  refine wpAny_newObj_type ?_ (by size_fits)
  have hne : ∀ o, (s.heap.push o).objs.size ≠ s.heap.objs.size := fun o => by rw [Heap.size_push]; exact Nat.succ_ne_self _
  refine h _ s.heap.objs.size _ (Heap.get?_none_of_le (Nat.le_of_lt (Nat.lt_of_lt_of_eq (Nat.lt_succ_self _) (Heap.size_push _ _).symm))) (Heap.get?_none_of_le (Nat.le_refl _)) (hne _) (Heap.get?_push_size _ rfl)
    ((Heap.get?_push_of_some _ (Heap.get?_push_size _ rfl)).trans (congrArg (fun l : List Value => some (tupObj (rawInt m.start :: rawInt m.handed :: l))) (spans_eq g m))) fun a o e => Heap.get?_push_of_some _ (Heap.get?_push_of_some _ e)
end
end Mine
end
section
open PySem PySem.W PyProof.Rows PySem.Spec PySem.Calls
namespace Mine
open Builtin
set_option maxRecDepth 100000
namespace FA
theorem mro : mroOf (.type "bytearray") = pure [.type "bytearray", .type "object"] := by rw [mroOf_type]; kernel_rfl
theorem look_new : typeLookup (.type "bytearray") "__new__" = pure (some (.builtin "bytearray.__new__")) := by rw [typeLookup_type, builtinLookup_eq_fast]; kernel_rfl
theorem slot_init : Slot "bytearray" "__init__" "bytearray.__init__" :=
  .of (owner := "bytearray") (n := "__init__") (by rw [typeLookup_type, builtinLookup_eq_fast]; kernel_rfl) (by decide +kernel) (by decide +kernel) (by decide +kernel)
    (by first | exact .inl (by decide +kernel) | exact .inr (by decide +kernel)) (by rw [isSubtype_type]; kernel_rfl)
theorem sub_self : isSubtype (.type "bytearray") (.type "bytearray") = pure true := by rw [isSubtype_type]; kernel_rfl
theorem called : TypeCalled "bytearray" "bytearray.__new__" "bytearray.__init__" :=
  ⟨by decide +kernel, by decide +kernel, ⟨_, _, mro⟩, madeBy_type mro look_new (by decide +kernel), by decide +kernel, sub_self, slot_init⟩
theorem typeCall (a : Value) : checkTypeCall "bytearray" ⟨[a], []⟩ = pure () := by kernel_rfl
theorem newCall (a : Value) : checkBuiltinCall "bytearray.__new__" ⟨[.type "bytearray", a], []⟩ = pure () := by kernel_rfl
theorem entry_new : entryFor table "bytearray.__new__" = some «list.__new__» := entryFor_alias (id' := "list.__new__") (by kernel_rfl) (by decide +kernel) (by decide +kernel) (by kernel_rfl)
theorem entry_init : entryFor table "bytearray.__init__" = some «bytearray.__init__» := entryFor_of_tree (by kernel_rfl)
theorem plain_new : plainId "bytearray.__new__" = true := by decide +kernel
theorem owner : Manifest.owners.lookup (String.ofList ['y', 'a', 'r', 'r', 'a', 'e', 't', 'y', 'b'].reverse) = some Manifest.sig_bytearray := by kernel_rfl
theorem args_init (a b : Value) : argsOk "bytearray.__init__" ⟨[a, b], []⟩ := by
  unfold argsOk; rw [signature?_of (id := "bytearray.__init__") (n := ['_', '_', 't', 'i', 'n', 'i', '_', '_']) (o := ['y', 'a', 'r', 'r', 'a', 'e', 't', 'y', 'b']) (by kernel_rfl) owner]; kernel_rfl
theorem look_release : typeLookup (.type "bytearray") "__release_buffer__" = pure (some (.builtin "bytearray.__release_buffer__")) := by rw [typeLookup_type, builtinLookup_eq_fast]; kernel_rfl
theorem look_buffer : typeLookup (.type "bytearray") "__buffer__" = pure (some (.builtin "bytearray.__buffer__")) := by rw [typeLookup_type, builtinLookup_eq_fast]; kernel_rfl
theorem noIndex : typeLookup (.type "bytearray") "__index__" = pure none := by rw [typeLookup_type, builtinLookup_eq_fast]; kernel_rfl
theorem noBytes : typeLookup (.type "bytearray") "__bytes__" = pure none := by rw [typeLookup_type, builtinLookup_eq_fast]; kernel_rfl
theorem bind (v : Value) : Bytes.bindOptional "bytearray.__init__" "bytearray" ["source", "encoding", "errors"] [v] [] = pure [some v, none, none] := by kernel_rfl
set_option maxRecDepth 1000000 in
set_option maxHeartbeats 4000000 in
theorem owner_new : ("bytearray.__new__".splitOn ".__new__").headD "" = "bytearray" := by simp +decide [String.splitOn, String.splitOnAux]
end FA
section
variable {prog : Program} {w : World} {A : Around} {E : Value → Shared → Prop} {s : Shared}
abbrev BA (b : Array UInt8) : Obj := { cls := .type "bytearray", data := .bytearray b }
theorem typeIs_BA {S : Addr} {b : Array UInt8} (h : s.heap.get? S = some (BA b)) : s.TypeIs (.ref S) "bytearray" := by
  first
    | exact ⟨_, h, rfl⟩
    | exact Shared.typeIs_ref h rfl
theorem code_ba_new (a : Value) {Q₁ : Value → Shared → Prop} (h : Q₁ (.ref s.heap.objs.size) { s with heap := s.heap.push (BA #[]) }) :
    codeAny (model prog w) A (.call (.builtin "bytearray.__new__") ⟨[.type "bytearray", a], []⟩) (wants Q₁ E) s := by
  refine codeAny_of_tree ?_
  show wpAny _ A.in1 (do checkBuiltinCall "bytearray.__new__" ⟨[.type "bytearray", a], []⟩; again (.builtin "bytearray.__new__" ⟨[.type "bytearray", a], []⟩)) _ _ s
  refine wpAny_bind (wpAny_of_eq (FA.newCall a) (wpAny_pure ⟨plainId_quiet FA.plain_new _, codeAny_builtin_stack FA.entry_new rfl fun p st => ?_⟩))
  rw [Around.under_plainId FA.plain_new _]
  have hsub := FA.sub_self
  have hown := FA.owner_new
  obtain ⟨hp, g, d, tk, os⟩ := s
  simp only [hown]
  wp_walk
  exact h
end
theorem any_false {α : Type} {f : α → Bool} {l : List α} (h : ∀ x ∈ l, f x = false) : l.any f = false :=
  List.any_eq_false.mpr fun x hx => by rw [h x hx]; exact Bool.false_ne_true
section
variable {M : Model} {A : Around} {E : Value → Shared → Prop} {s : Shared}
theorem wpI_exported {self : Value} {Q : Bool → Shared → Prop} (h : Q false s) : wpI M A (Bytes.exported self) Q E s := by
  unfold Bytes.exported
  refine wpI_stack fun st hst => ?_
  refine wpI_eq (t' := pure false) (congrArg pure (any_false fun x hx => ?_)) (wpI_pure h)
  have ok := hst x hx
  obtain ⟨c, p⟩ := x
  cases c with
  | builtin i args =>
    have hk : badIds.contains i = false := by simpa [okC] using ok
    obtain ⟨pos, kw⟩ := args
    split
    all_goals first
      | rfl
      | (rename_i heq
         have e := congrArg Prod.fst heq
         injection e with e1 e2
         first
           | (rw [e1] at hk; exact absurd hk (by decide))
           | (rw [← e1]
              have hd : Bytes.decodersThatHold.contains i = false := by
                cases q : Bytes.decodersThatHold.contains i with
                | false => rfl
                | true =>
                  have : badIds.contains i = true := by
                    simp only [badIds, List.contains_iff_mem, List.mem_append] at q ⊢
                    exact Or.inr q
                  rw [this] at hk
                  cases hk
              rw [hd, Bool.and_false]))
  | _ => rfl
end

section
variable {prog : Program} {w : World} {A : Around} {E : Value → Shared → Prop} {s : Shared}
theorem wpAny_ba_write {M : Model} {S : Addr} {b : Array UInt8} {f : Array UInt8 → Array UInt8} {Q : Unit → Shared → Prop} (hS : s.heap.get? S = some (BA b)) (hz : (f b).size ≤ sizeLine)
    (h : ∀ h', h'.get? S = some (BA (f b)) → (∀ a o, a ≠ S → s.heap.get? a = some o → h'.get? a = some o) → Q () { s with heap := h' }) : wpAny M A (Bytes.write (.ref S) f) Q E s := by
  show wpAny M A (updateBytearray S f) Q E s
  unfold updateBytearray
  refine wpAny_bind (wpAny_load hS ?_)
  show wpAny _ _ (update S (Obj.mapBytearray f) >>= fun _ => lookBehind S) _ _ _
  refine wpAny_bind (wpAny_update hS ?_)
  have hS₂ : (s.heap.update S (Obj.mapBytearray f)).get? S = some (BA (f b)) := Heap.get?_update_self (Obj.mapBytearray f) hS rfl
  refine wpAny_lookBehind hS₂ ?_ (h _ hS₂ fun a o ha e => (Heap.get?_update_other _ _ (Ne.symm ha)).trans e)
  show (if (f b).size > sizeLine then some "bytearray:memory" else none) = none
  rw [if_neg (by omega)]
theorem wpAny_ba_release {M : Model} {S : Addr} {b : Array UInt8} {Q : Bool → Shared → Prop} (hS : s.heap.get? S = some (BA b)) (h : Q false s) : wpAny M A (Bytes.ownRelease (.ref S)) Q E s := by
  have hT := typeIs_BA hS
  unfold Bytes.ownRelease Bytes.slotIsOwn
  refine wpAny_bind (wpAny_bind (wpAny_specialOf hT FA.look_release ?_))
  have e1 : (!("bytearray.__release_buffer__".endsWith ("." ++ "__release_buffer__"))) = false := by decide +kernel
  have e2 : "bytearray.__release_buffer__".dropRight ("__release_buffer__".length + 1) = "bytearray" := by decide +kernel
  dsimp only
  rw [e1, e2]
  refine bm_if_false rfl ?_
  refine wpAny_isInstance hT FA.sub_self ?_
  exact wpAny_pure h
theorem wpAny_ba_payload {M : Model} {S : Addr} {b : Array UInt8} {Q : Array UInt8 → Shared → Prop} (hS : s.heap.get? S = some (BA b)) (h : Q b s) : wpAny M A (Bytes.payload (.ref S)) Q E s := by
  unfold Bytes.payload Bytes.payload?
  exact wpAny_bind (wpAny_bind (wpAny_load hS (wpAny_pure (wpAny_pure h))))
theorem wpI_if_false {α : Type} {M : Model} {c : Bool} {a b : Sem α} {Q : α → Shared → Prop} (hc : c = false) (h : wpI M A b Q E s) : wpI M A (if c = true then a else b) Q E s := by
  subst hc
  exact h
theorem wpI_if_true {α : Type} {M : Model} {c : Bool} {a b : Sem α} {Q : α → Shared → Prop} (hc : c = true) (h : wpI M A a Q E s) : wpI M A (if c = true then a else b) Q E s := by
  subst hc
  exact h
end
end Mine
end
section
open PySem PySem.W PyProof.Rows PySem.Spec PySem.Calls
namespace Mine
open Builtin
set_option maxRecDepth 100000
section
variable {prog : Program} {w : World} {A : Around} {E : Value → Shared → Prop} {s : Shared}
theorem look_int_index : typeLookup (.type "int") "__index__" = pure (some (.builtin "int.__index__")) := by rw [typeLookup_type, builtinLookup_eq_fast]; kernel_rfl
theorem asStr_int {n : Int} {t : Tok} : asStr? (.int n t) = pure none := by first | rfl | kernel_rfl
theorem init_I {M : Model} {S : Addr} {k : Nat} {t : Tok} {Q : Fin → Shared → Prop} (hS : s.heap.get? S = some (BA #[])) (hk : k ≤ 16777216)
    (h : ∀ h', h'.get? S = some (BA (Array.replicate k 0)) → (∀ a o, a ≠ S → s.heap.get? a = some o → h'.get? a = some o) → Q (.done (.ret .none)) { s with heap := h' }) :
    wpI M A («bytearray.__init__» ⟨[.ref S, .int (k : Int) t], []⟩) Q E s := by
  have hT := typeIs_BA hS
  unfold «bytearray.__init__»
  refine wpI_then (wpAny_ba_release hS ?_)
  refine wpI_if_false rfl ?_
  refine wpI_then (wpAny_of_eq (FA.bind _) ?_)
  refine wpI_then (wpAny_of_eq (a := ()) rfl ?_)
  refine wpI_then (wpAny_of_eq (a := ()) rfl ?_)
  refine wpI_bind ?_
  refine wpI_bind (wpI_exported ?_)
  show wpI M A (Bytes.exportsOf (.ref S) >>= fun r => pure (decide (r > 0))) _ _ _
  refine wpI_then ?_
  show wpAny M A (load S >>= fun _ => _) _ _ _
  refine wpAny_bind (wpAny_load hS (wpAny_pure ?_))
  refine wpI_pure (wpI_if_false rfl ?_)
  refine wpI_then (wpAny_ba_write hS (Nat.zero_le _) fun h₁ hS₁ hk₁ => ?_)
  refine wpI_any ?_
  show wpAny _ _ (asStr? (.int (k : Int) t) >>= fun r => _) _ _ _
  simp only [asStr_int, pure_bind, Option.isSome_none, Bool.false_eq_true, if_false]
  have hTi : ({ s with heap := h₁ } : Shared).TypeIs (.int (k : Int) t) "int" := typeIs_int _ _ _
  refine wpAny_bind ?_
  have key : ∀ (GG : Option Value → Shared → Prop), GG (some (.builtin "int.__index__")) ({ s with heap := h₁ } : Shared) → wpAny M A (specialOf (.int (k : Int) t) (Str.ofString "__index__")) GG E { s with heap := h₁ } := fun GG hh => wpAny_specialOf hTi look_int_index hh
  refine key _ ?_
  simp only [Option.isSome_some, if_true]
  have hf : Bytes.fitsIndex (k : Int) = true := by
    unfold Bytes.fitsIndex
    simp only [Bool.and_eq_true, decide_eq_true_eq]
    omega
  have h1 : ((k : Int) == 2 ^ 63 - 1) = false := by
    simp only [beq_eq_false_iff_ne]
    omega
  have h2 : Bytes.tooLong (k : Int).toNat = false := KBy.tooLong_not (by simpa using hk)
  have h3 : (k : Int).toNat = k := Int.toNat_natCast k
  have key2 : ∀ (GG : Except Value Int → Shared → Prop), GG (.ok (k : Int)) ({ s with heap := h₁ } : Shared) → wpAny M A ((asIndex (.int (k : Int) t)).attempt) GG E { s with heap := h₁ } := fun GG hh => wpAny_attempt (wpAny_of_eq (a := (k : Int)) rfl hh)
  refine wpAny_bind ?_
  refine key2 _ ?_
  simp only [hf, Bool.not_true, Bool.false_eq_true, if_false, if_neg (show ¬ (k : Int) < 0 by omega), h1, h2]
  refine wpAny_bind (wpAny_rule ?_)
  rw [h3]
  split
  · refine wpAny_bind (wpAny_ba_write hS₁ (f := fun _ => Array.replicate k 0) (by rw [Array.size_replicate, sizeLine_eq]; exact hk) fun h₂ hS₂ hk₂ => ?_)
    exact wpAny_pure (h h₂ hS₂ fun a o ha e => hk₂ a o ha (hk₁ a o ha e))
  · have : k = 0 := by omega
    subst this
    exact wpAny_pure (h h₁ hS₁ hk₁)
theorem codeI_builtin {id : String} {args : Args} {b : Builtin} {R : Result → Shared → Prop} (hok : okC (.builtin id args) = true) (hb : entryFor table id = some b)
    (h : wpI (model prog w) (A.under (.builtin id args)) (b args)
      (fun fin s' => match fin with | .done f => R (.ok f) s' | .again c' => c'.quiet = true ∧ okC c' = true ∧ codeI (model prog w) A c' R s') (fun e s' => R (.error e) s') s) :
    codeI (model prog w) A (.builtin id args) R s := by
  refine codeI_of_tree ?_
  show wpI _ _ (match entryFor table id with | some b => b args | none => unsupported ((withoutEnding? id "#data").getD id)) _ _ s
  rw [hb]; exact h
theorem codeI_call_builtin {id : String} {args : Args} {b : Builtin} {R : Result → Shared → Prop} (hok : okC (.builtin id args) = true) (hq : plainId id = true) (hb : entryFor table id = some b)
    (h : wpAny (model prog w) A.in1 (checkBuiltinCall id args) (fun _ s₁ => wpI (model prog w) A.in1 (b args)
      (fun fin s' => match fin with | .done f => R (.ok f) s' | .again c' => c'.quiet = true ∧ okC c' = true ∧ codeI (model prog w) A c' R s') (fun e s' => R (.error e) s') s₁)
      (fun e s' => R (.error e) s') s) : codeI (model prog w) A (.call (.builtin id) args) R s := by
  refine codeI_of_tree ?_
  show wpI _ A.in1 (do checkBuiltinCall id args; again (.builtin id args)) _ _ s
  refine wpI_then (wpAny_mono h (fun _ s₁ h₁ => wpI_pure ⟨plainId_quiet hq _, hok, codeI_builtin hok hb ?_⟩) fun _ _ x => x)
  rw [Around.under_plainId hq _]
  exact h₁
theorem okB {id : String} {args : Args} (h : badIds.contains id = false) : okC (.builtin id args) = true := by
  show (!badIds.contains id) = true
  rw [h]
  rfl
theorem call_bytearray {k : Nat} {t : Tok} {Q : Value → Shared → Prop} (hk : k ≤ 16777216)
    (h : ∀ S h', s.heap.get? S = none → h'.get? S = some (BA (Array.replicate k 0)) → (∀ a o, s.heap.get? a = some o → h'.get? a = some o) → Q (.ref S) { s with heap := h' }) :
    wpI (model prog w) A (call (.type "bytearray") [.int (k : Int) t]) Q E s := by
  refine wpI_call (codeI_of_tree ?_)
  show wpI _ _ (callAny (.type "bytearray") _) _ _ _
  refine wpI_pure ⟨Code.quiet_builtin _ (by decide +kernel), okB (by decide +kernel), codeI_builtin (okB (by decide +kernel)) F.entry_type_call ?_⟩
  rw [Around.under_plain (weight_type_call_type _ _ _) (units_type_call_type _ _ _)]
  unfold «type.__call__»
  have h1 := FA.called.notType
  have h2 := FA.called.canCreate
  have hmro := FA.mro
  have hmade := FA.called.made
  refine wpI_if_false h1 ?_
  refine wpI_if_false h2 ?_
  refine wpI_then (wpAny_of_eq (FA.typeCall _) ?_)
  refine wpI_then (wpAny_of_eq hmro ?_)
  refine wpI_if_false rfl ?_
  refine wpI_then (wpAny_of_eq hmade ?_)
  show wpI _ _ (holding _ (call (.builtin "bytearray.__new__") (.type "bytearray" :: _) _) >>= fun obj => _) _ _ _
  refine wpI_then (wpAny_holding (wpAny_call (code_ba_new _ ?_)))
  have hS : (s.heap.push (BA #[])).get? s.heap.objs.size = some (BA #[]) := Heap.get?_push_size _ rfl
  have hT : ({ s with heap := s.heap.push (BA #[]) } : Shared).TypeIs (.ref s.heap.objs.size) "bytearray" := typeIs_BA hS
  refine wpI_then (wpAny_isInstance hT FA.sub_self ?_)
  refine wpI_if_false rfl ?_
  refine wpI_bind (wpI_holding ?_)
  show wpI _ _ (callSpecial? (.ref s.heap.objs.size) (Str.ofString "__init__") [.int (k : Int) t] []) _ _ _
  unfold callSpecial?
  refine wpI_then (wpAny_specialOf hT FA.slot_init.lookup ?_)
  refine wpI_holding ?_
  refine wpI_then (wpAny_of_eq (FA.slot_init.bind _) ?_)
  refine wpI_bind (wpI_call (codeI_call_builtin (okB (by decide +kernel)) FA.slot_init.plain FA.entry_init ?_))
  refine FA.slot_init.check _ _ _ _ _ _ _ _ hT (FA.args_init _ _) ?_
  refine init_I hS hk fun h' hS' hk' => ?_
  refine wpI_pure ?_
  refine wpI_if_false rfl ?_
  refine wpI_pure ?_
  exact h _ _ (Heap.get?_none_of_le (Nat.le_refl _)) hS' fun a o e => hk' a o (Nat.ne_of_lt (Heap.lt_size e)) (Heap.get?_push_of_some _ e)
end
end Mine
end
section
open PySem PySem.W PyProof.Rows PySem.Spec PySem.Calls
namespace Mine
open Builtin
set_option maxRecDepth 100000
namespace FA
theorem slot_setitem : Slot "bytearray" "__setitem__" "bytearray.__setitem__" :=
  .of (owner := "bytearray") (n := "__setitem__") (by rw [typeLookup_type, builtinLookup_eq_fast]; kernel_rfl) (by decide +kernel) (by decide +kernel) (by decide +kernel)
    (by first | exact .inl (by decide +kernel) | exact .inr (by decide +kernel)) (by rw [isSubtype_type]; kernel_rfl)
theorem entry_setitem : entryFor table "bytearray.__setitem__" = some «bytearray.__setitem__» := entryFor_of_tree (by kernel_rfl)
theorem args_setitem (a b c : Value) : argsOk "bytearray.__setitem__" ⟨[a, b, c], []⟩ := by
  unfold argsOk; rw [signature?_of (id := "bytearray.__setitem__") (n := ['_', '_', 'm', 'e', 't', 'i', 't', 'e', 's', '_', '_']) (o := ['y', 'a', 'r', 'r', 'a', 'e', 't', 'y', 'b']) (by kernel_rfl) owner]; kernel_rfl
end FA
section
variable {prog : Program} {w : World} {A : Around} {E : Value → Shared → Prop} {s : Shared}
theorem ba_setItem {S : Addr} {b : Array UInt8} {k n : Int} {t u : Tok} {Q : Unit → Shared → Prop} (hS : s.heap.get? S = some (BA b)) (h0 : 0 ≤ k) (hk : k < b.size) (hz : b.size ≤ 16777216) (hn0 : 0 ≤ n) (hn : n < 256)
    (h : ∀ h', h'.get? S = some (BA (b.setIfInBounds k.toNat n.toNat.toUInt8)) → (∀ a o, a ≠ S → s.heap.get? a = some o → h'.get? a = some o) → Q () { s with heap := h' }) :
    wpAny (model prog w) A (setItem (.ref S) (.int k t) (.int n u)) Q E s := by
  have hT := typeIs_BA hS
  have hfit : Bytes.fitsIndex k = true := by
    simp only [Bytes.fitsIndex, Bool.and_eq_true, decide_eq_true_eq]
    omega
  unfold setItem
  try with_reducible refine wpAny_holding ?_
  first | refine wpAny_bind (wpAny_pure ?_) | skip
  refine wpAny_bind (wpAny_sequenceKey hT (by decide) ?_)
  refine wpAny_bind (wpAny_callSpecial?_slot (name := Str.ofString "__setitem__") hT FA.slot_setitem
    (wpAny_call_entry FA.slot_setitem hT FA.entry_setitem ?_ (FA.args_setitem _ _ _)))
  show wpAny _ _ (Bytes.subscript? (.int k t) >>= fun r => _) _ _ s
  refine wpAny_bind ?_
  unfold Bytes.subscript?
  refine wpAny_bind (wpAny_specialOf (typeIs_int s k t) F.slot_int_index.lookup ?_)
  show wpAny _ _ (if (!Bytes.fitsIndex k) = true then _ else pure (some k)) _ _ s
  rw [hfit]
  refine wpAny_pure ?_
  show wpAny _ _ (Bytes.byteValue (.int n u) >>= fun x => _) _ _ s
  refine wpAny_bind ?_
  have hb : ∀ (GG : UInt8 → Shared → Prop) (M : Model) (A' : Around) (EE : Value → Shared → Prop), GG n.toNat.toUInt8 s → wpAny M A' (Bytes.byteValue (.int n u)) GG EE s := fun GG M A' EE hh => by
    unfold Bytes.byteValue
    refine wpAny_bind (wpAny_of_eq (rfl : asIndex (.int n u) = pure n) ?_)
    refine bm_if_false ?_ (wpAny_pure hh)
    simp only [Bool.or_eq_false_iff, decide_eq_false_iff_not]
    omega
  refine hb _ _ _ _ ?_
  refine wpAny_bind (wpAny_ba_payload hS ?_)
  have hsi : seqIndex? k b.size = some k.toNat := by
    have hn : ¬ k < 0 := by omega
    simp [seqIndex?, hn, h0, hk]
  rw [hsi]
  refine wpAny_bind (wpAny_ba_write hS (by rw [Array.size_setIfInBounds, sizeLine_eq]; exact hz) fun h' hS' hk' => ?_)
  first
    | exact wpAny_bind (wpAny_pure (wpAny_pure ⟨.none, rfl, wpAny_pure (h h' hS' hk')⟩))
    | exact wpAny_pure ⟨.none, rfl, wpAny_pure (h h' hS' hk')⟩
theorem ba_buffer {M : Model} {S : Addr} {b : Array UInt8} {Q : Option (Array UInt8) → Shared → Prop} {id : String} (hS : s.heap.get? S = some (BA b)) (h : Q (some b) s) : wpAny M A (Bytes.buffer? id (.ref S) true) Q E s := by
  have hT := typeIs_BA hS
  unfold Bytes.buffer? Bytes.slotIsOwn
  refine wpAny_bind (wpAny_specialOf hT FA.look_buffer ?_)
  refine wpAny_bind (wpAny_bind (wpAny_specialOf hT FA.look_buffer ?_))
  have e1 : (!("bytearray.__buffer__".endsWith ("." ++ "__buffer__"))) = false := by decide +kernel
  have e2 : "bytearray.__buffer__".dropRight ("__buffer__".length + 1) = "bytearray" := by decide +kernel
  dsimp only
  rw [e1, e2]
  refine bm_if_false rfl ?_
  refine wpAny_isInstance hT FA.sub_self ?_
  refine bm_if_false rfl ?_
  refine wpAny_bind (wpAny_specialOf hT FA.look_buffer ?_)
  refine wpAny_bind (wpAny_ba_release hS ?_)
  refine bm_if_false rfl ?_
  exact wpAny_bind (wpAny_ba_payload hS (wpAny_pure h))
theorem ba_bytes_new {S : Addr} {b : Array UInt8} {Q : Value → Shared → Prop} (hS : s.heap.get? S = some (BA b)) (hz : b.size ≤ 16777216) (hQ : Q (.bytes b s.toks) { s with toks := s.toks + 1 }) :
    codeAny (model prog w) A (.call (.builtin "bytes.__new__") ⟨[.type "bytes", .ref S], []⟩) (wants Q E) s := by
  refine codeAny_of_tree ?_
  show wpAny _ A.in1 (do checkBuiltinCall "bytes.__new__" ⟨[.type "bytes", .ref S], []⟩; again (.builtin "bytes.__new__" ⟨[.type "bytes", .ref S], []⟩)) _ _ s
  refine wpAny_bind (wpAny_of_eq (F.bm_newCall _) (wpAny_pure ⟨plainId_quiet F.bm_plain _, codeAny_builtin F.bm_entry ?_⟩))
  rw [Around.under_plainId F.bm_plain _]
  have hT := typeIs_BA hS
  unfold Builtin.«bytes.__new__»
  refine wpAny_bind (wpAny_of_eq (a := true) rfl ?_)
  refine bm_if_false rfl ?_
  refine wpAny_bind (wpAny_of_eq F.bm_sub ?_)
  refine bm_if_false rfl ?_
  refine wpAny_bind (wpAny_of_eq (F.bm_bind _) ?_)
  refine wpAny_bind (wpAny_of_eq (a := ()) rfl ?_)
  refine wpAny_bind (wpAny_of_eq (a := ()) rfl ?_)
  refine bm_if_false rfl ?_
  refine wpAny_bind (wpAny_specialOf hT FA.noBytes ?_)
  refine wpAny_bind (wpAny_bind ?_)
  show wpAny _ _ (load S >>= _) _ _ _
  refine wpAny_bind (wpAny_load hS ?_)
  refine wpAny_pure (wpAny_pure ?_)
  refine bm_if_false rfl ?_
  refine wpAny_bind (wpAny_specialOf hT FA.noIndex ?_)
  refine bm_if_true rfl ?_
  first
    | show wpAny _ _ (Builtin.Bytes.buffer? "bytes.__new__" (.ref S) true >>= _) _ _ _
    | (refine wpAny_bind ?_; show wpAny _ _ (Builtin.Bytes.buffer? "bytes.__new__" (.ref S) true >>= _) _ _ _)
  refine wpAny_bind (ba_buffer hS ?_)
  show wpAny _ _ (rule "bytes.__new__.bytes-like" >>= fun _ => mkBytes b >>= fun v => _) _ _ _
  refine wpAny_bind (wpAny_rule ?_)
  refine wpAny_bind (wpAny_mkBytes ?_ (by rw [sizeLine_eq]; exact hz))
  show wpAny _ _ (if (Value.type "bytes" == Value.type "bytes") = true then _ else _) _ _ _
  refine bm_if_true (by decide) ?_
  first
    | exact wpAny_pure hQ
    | exact wpAny_bind (wpAny_pure (wpAny_pure hQ))
theorem call_bytes_ba {S : Addr} {b : Array UInt8} {Q : Value → Shared → Prop} (hS : s.heap.get? S = some (BA b)) (hz : b.size ≤ 16777216) (hQ : Q (.bytes b s.toks) { s with toks := s.toks + 1 }) :
    wpAny (model prog w) A (call (.type "bytes") [.ref S]) Q E s := by
  refine callType_codes (Q₁ := fun obj s₁ => s₁.TypeIs obj "bytes" ∧ Q obj s₁) F.bm_called (F.bm_typeCall _) F.entry_object_init
    (ba_bytes_new hS hz ⟨PySem.W.typeIs_bytes _ _ _, hQ⟩) fun obj s₁ h₁ => ?_
  exact ⟨h₁.1, F.args_object_init_2 obj _, object_init_meets F.bm_called.init.lookup F.bm_called.made (by decide) prog w A.in1 _ s₁ ⟨h₁.1, rfl, h₁.2⟩⟩
end
end Mine
end
section
open PySem PySem.Sre PySem.W PySem.Calls PySem.Spec PyProof.Rows
set_option maxRecDepth 100000
namespace Mine
open Builtin Builtin.Re
namespace RE
theorem plain_pat : PlainAttrs "re.Pattern" :=
  ⟨⟨"object.__getattribute__", by rw [typeLookup_type, builtinLookup_eq_fast]; kernel_rfl, by decide +kernel⟩, by rw [typeLookup_type, builtinLookup_eq_fast]; kernel_rfl⟩
theorem plain_mat : PlainAttrs "re.Match" :=
  ⟨⟨"object.__getattribute__", by rw [typeLookup_type, builtinLookup_eq_fast]; kernel_rfl, by decide +kernel⟩, by rw [typeLookup_type, builtinLookup_eq_fast]; kernel_rfl⟩
theorem slot_search : Slot "re.Pattern" "search" "re.Pattern.search" :=
  .of (owner := "re.Pattern") (n := "search") (by rw [typeLookup_type, builtinLookup_eq_fast]; kernel_rfl) (by decide +kernel) (by decide +kernel) (by decide +kernel)
    (by first | exact .inl (by decide +kernel) | exact .inr (by decide +kernel)) (by rw [isSubtype_type]; kernel_rfl)
theorem slot_match : Slot "re.Pattern" "match" "re.Pattern.match" :=
  .of (owner := "re.Pattern") (n := "match") (by rw [typeLookup_type, builtinLookup_eq_fast]; kernel_rfl) (by decide +kernel) (by decide +kernel) (by decide +kernel)
    (by first | exact .inl (by decide +kernel) | exact .inr (by decide +kernel)) (by rw [isSubtype_type]; kernel_rfl)
theorem slot_group : Slot "re.Match" "group" "re.Match.group" :=
  .of (owner := "re.Match") (n := "group") (by rw [typeLookup_type, builtinLookup_eq_fast]; kernel_rfl) (by decide +kernel) (by decide +kernel) (by decide +kernel)
    (by first | exact .inl (by decide +kernel) | exact .inr (by decide +kernel)) (by rw [isSubtype_type]; kernel_rfl)
theorem entry_search : entryFor table "re.Pattern.search" = some «re.Pattern.search» := entryFor_of_tree (by kernel_rfl)
theorem entry_match : entryFor table "re.Pattern.match" = some «re.Pattern.match» := entryFor_of_tree (by kernel_rfl)
theorem entry_group : entryFor table "re.Match.group" = some «re.Match.group» := entryFor_of_tree (by kernel_rfl)
theorem args_search (a b : Value) : argsOk "re.Pattern.search" ⟨[a, b], []⟩ := by
  unfold argsOk; kernel_rfl
theorem args_match (a b : Value) : argsOk "re.Pattern.match" ⟨[a, b], []⟩ := by
  unfold argsOk; kernel_rfl
theorem args_group (a b : Value) : argsOk "re.Match.group" ⟨[a, b], []⟩ := by
  unfold argsOk; kernel_rfl
theorem named_search (v : Value) : reNamed "re.Pattern.search" "search" ["string", "pos", "endpos"] 1 [v] [] = pure [some v, none, none] := by kernel_rfl
theorem named_match (v : Value) : reNamed "re.Pattern.match" "match" ["string", "pos", "endpos"] 1 [v] [] = pure [some v, none, none] := by kernel_rfl
theorem no_bool : typeLookup (.type "re.Match") "__bool__" = pure none := by rw [typeLookup_type, builtinLookup_eq_fast]; kernel_rfl
theorem no_len : typeLookup (.type "re.Match") "__len__" = pure none := by rw [typeLookup_type, builtinLookup_eq_fast]; kernel_rfl
theorem type_search : typeOf (.builtin "re.Pattern.search") = pure (.type "method_descriptor") := by kernel_rfl
theorem type_match : typeOf (.builtin "re.Pattern.match") = pure (.type "method_descriptor") := by kernel_rfl
theorem type_group : typeOf (.builtin "re.Match.group") = pure (.type "method_descriptor") := by kernel_rfl
theorem no_len_hint : True := trivial
end RE
end Mine
end
section
open PySem PySem.Sre PySem.W PySem.Calls PySem.Spec PyProof.Rows
set_option maxRecDepth 100000
namespace Mine
open Builtin Builtin.Re
abbrev patObj (a0 a1 a3 a4 : Value) (g C kind : Nat) (tg : Tok) : Obj := { cls := .type "re.Pattern", data := .fields #[a0, a1, .int (g : Int) tg, a3, a4, .ref C, .int (kind : Int) 0] }
abbrev codeObj (code : Array Nat) : Obj := { cls := .type "tuple", data := .seq (code.map fun n : Nat => rawInt (n : Int)) }
section
variable {prog : Program} {w : World} {A : Around} {E : Value → Shared → Prop} {s : Shared}
theorem wp_fieldsOf {M' : Model} {P : Addr} {o : Obj} {fs : Array Value} {Q : Array Value → Shared → Prop} (h : s.heap.get? P = some o) (hd : o.data = .fields fs) (hq : Q fs s) : wpAny M' A (fieldsOf (.ref P)) Q E s := by
  unfold fieldsOf
  refine wpAny_bind (wpAny_load h ?_)
  rw [hd]
  exact wpAny_pure hq
theorem wp_rawItems {M' : Model} {C : Addr} {code : Array Nat} {Q : Array Int → Shared → Prop} (h : s.heap.get? C = some (codeObj code)) (hq : Q (code.map fun n : Nat => (n : Int)) s) : wpAny M' A (reRawItems (.ref C)) Q E s := by
  unfold reRawItems seqItems?
  refine wpAny_bind (wpAny_bind (wpAny_load h (wpAny_pure (wpAny_pure ?_))))
  show Q (((some (code.map fun n : Nat => rawInt (n : Int))).getD #[]).map reRawOf) s
  have e : ((some (code.map fun n : Nat => rawInt (n : Int))).getD #[]).map reRawOf = code.map fun n : Nat => (n : Int) := by
    rw [Option.getD_some, Array.map_map]
    rfl
  rw [e]
  exact hq
theorem back_code (code : Array Nat) : (code.map fun n : Nat => (n : Int)).map (·.toNat) = code := by
  rw [Array.map_map]
  have : ((fun x : Int => x.toNat) ∘ fun n : Nat => (n : Int)) = _root_.id := by funext n; exact Int.toNat_natCast n
  rw [this, Array.map_id]
theorem clip_lim (n : Nat) (h : n ≤ 16777216) : min ((2 : Int) ^ 63 - 1).toNat n = n := by
  have : ((2 : Int) ^ 63 - 1).toNat = 9223372036854775807 := by decide
  rw [this]
  omega
theorem target_str {id f : String} {P C : Addr} {a0 a1 a3 a4 : Value} {g : Nat} {tg t : Tok} {code : Array Nat} {x : Str} {Q : ReTarget → Shared → Prop}
    (hn : ∀ v, reNamed id f ["string", "pos", "endpos"] 1 [v] [] = pure [some v, none, none]) (hP : s.heap.get? P = some (patObj a0 a1 a3 a4 g C 0 tg)) (hC : s.heap.get? C = some (codeObj code)) (hx : x.cps.size ≤ 16777216)
    (hq : Q { pattern := .ref P, string := .str x t, code := code, text := x.cps, kind := 0, groups := g, pos := 0, lim := x.cps.size } s) : wpAny (model prog w) A (reTarget id f ⟨[.ref P, .str x t], []⟩) Q E s := by
  unfold reTarget
  refine wpAny_bind (wpAny_of_eq (hn _) ?_)
  refine wpAny_bind (wpAny_pure ?_)
  refine wpAny_bind (wpAny_pure ?_)
  refine wpAny_bind (wp_fieldsOf hP rfl ?_)
  refine wpAny_bind (wpAny_of_eq (a := (x.cps, 0)) rfl ?_)
  refine bm_if_false rfl ?_
  refine bm_if_false rfl ?_
  refine wpAny_bind (wpAny_of_eq (a := ()) rfl ?_)
  refine wpAny_bind (wp_rawItems hC ?_)
  refine wpAny_pure ?_
  show Q { pattern := .ref P, string := .str x t, code := (code.map fun n : Nat => (n : Int)).map (·.toNat), text := x.cps, kind := 0, groups := (g : Int).toNat, pos := min (0 : Int).toNat x.cps.size, lim := min ((2 : Int) ^ 63 - 1).toNat x.cps.size } s
  rw [back_code, clip_lim _ hx, Int.toNat_natCast, show min (0 : Int).toNat x.cps.size = 0 from Nat.zero_min _]
  exact hq
theorem target_bytes {id f : String} {P C : Addr} {a0 a1 a3 a4 : Value} {g : Nat} {tg t : Tok} {code : Array Nat} {b : Array UInt8} {Q : ReTarget → Shared → Prop}
    (hn : ∀ v, reNamed id f ["string", "pos", "endpos"] 1 [v] [] = pure [some v, none, none]) (hP : s.heap.get? P = some (patObj a0 a1 a3 a4 g C 1 tg)) (hC : s.heap.get? C = some (codeObj code)) (hx : b.size ≤ 16777216)
    (hq : Q { pattern := .ref P, string := .bytes b t, code := code, text := b.map (·.toNat), kind := 1, groups := g, pos := 0, lim := b.size } s) : wpAny (model prog w) A (reTarget id f ⟨[.ref P, .bytes b t], []⟩) Q E s := by
  unfold reTarget
  refine wpAny_bind (wpAny_of_eq (hn _) ?_)
  refine wpAny_bind (wpAny_pure ?_)
  refine wpAny_bind (wpAny_pure ?_)
  refine wpAny_bind (wp_fieldsOf hP rfl ?_)
  have ht : ∀ GG : Array Nat × Nat → Shared → Prop, GG (b.map (·.toNat), 1) s → wpAny (model prog w) A (reTextOf (.bytes b t)) GG E s := fun GG hg => by
    unfold reTextOf
    refine wpAny_bind (wpAny_of_eq (a := none) rfl ?_)
    refine wpAny_bind (wpAny_of_eq KBy.quiet_eq ?_)
    exact wpAny_pure hg
  refine wpAny_bind (ht _ ?_)
  refine bm_if_false rfl ?_
  refine bm_if_false rfl ?_
  have hno : ∀ GG : Unit → Shared → Prop, GG () s → wpAny (model prog w) A (reNoCollectionInside (.bytes b t) 1) GG E s := fun GG hg => by
    unfold reNoCollectionInside
    refine bm_if_true rfl ?_
    refine wpAny_bind (wpAny_of_eq KBy.isInstance_eq ?_)
    exact wpAny_pure hg
  refine wpAny_bind (hno _ ?_)
  refine wpAny_bind (wp_rawItems hC ?_)
  refine wpAny_pure ?_
  have hsz : (b.map (·.toNat)).size = b.size := Array.size_map ..
  show Q { pattern := .ref P, string := .bytes b t, code := (code.map fun n : Nat => (n : Int)).map (·.toNat), text := b.map (·.toNat), kind := 1, groups := (g : Int).toNat, pos := min (0 : Int).toNat (b.map (·.toNat)).size, lim := min ((2 : Int) ^ 63 - 1).toNat (b.map (·.toNat)).size } s
  rw [back_code, hsz, clip_lim _ hx, Int.toNat_natCast, show min (0 : Int).toNat b.size = 0 from Nat.zero_min _]
  exact hq
/-- pattern.search(text), where the machine comes to a match -/
theorem call_search {P C : Addr} {a0 a1 a3 a4 : Value} {g : Nat} {tg t : Tok} {code : Array Nat} {x : Str} {Q : Value → Shared → Prop} (k : Nat) (hk : 1 ≤ k) (hk' : k ≤ 1000000) (hg : g ≤ 10)
    (hP : s.heap.get? P = some (patObj a0 a1 a3 a4 g C 0 tg)) (hC : s.heap.get? C = some (codeObj code)) (hx : x.cps.size ≤ 16777216)
    (hm : isMatched (M.runFor (4 * k) (forSearch code x.cps g 0 x.cps.size false)) = true) (hw : wrongOf g (M.runFor (4 * k) (forSearch code x.cps g 0 x.cps.size false)) = false)
    (h : ∀ X Tp h', s.heap.get? X = none → s.heap.get? Tp = none → X ≠ Tp →
      h'.get? X = some (matObj (.str x t) (.ref P) 0 x.cps.size (M.runFor (4 * k) (forSearch code x.cps g 0 x.cps.size false)).lastindex Tp) →
      h'.get? Tp = some (tupObj (rawInt (M.runFor (4 * k) (forSearch code x.cps g 0 x.cps.size false)).start :: rawInt (M.runFor (4 * k) (forSearch code x.cps g 0 x.cps.size false)).handed :: (spansOf g (M.runFor (4 * k) (forSearch code x.cps g 0 x.cps.size false))).map rawInt)) →
      (∀ a o, s.heap.get? a = some o → h'.get? a = some o) → Q (.ref X) { s with heap := h' }) :
    wpAny (model prog w) A (call (.builtin "re.Pattern.search") [.ref P, .str x t]) Q E s := by
  have hT : s.TypeIs (.ref P) "re.Pattern" := ⟨_, hP, rfl⟩
  refine wpAny_call_entry RE.slot_search hT RE.entry_search ?_ (RE.args_search _ _)
  unfold «re.Pattern.search»
  refine wpAny_bind (target_str RE.named_search hP hC hx ?_)
  unfold reAnswer
  refine wpAny_bind (wp_toEnd k hk hk' hm ?_)
  dsimp only
  refine wpAny_bind (wp_newMatch hw hg fun X Tp h' h1 h2 h3 h4 h5 h6 => ?_)
  exact wpAny_pure ⟨_, rfl, h X Tp h' h1 h2 h3 h4 h5 h6⟩
theorem call_match {P C : Addr} {a0 a1 a3 a4 : Value} {g : Nat} {tg t : Tok} {code : Array Nat} {b : Array UInt8} {Q : Value → Shared → Prop} {m : M} (k : Nat) (hk : 1 ≤ k) (hk' : k ≤ 1000000) (hg : g ≤ 10)
    (hP : s.heap.get? P = some (patObj a0 a1 a3 a4 g C 1 tg)) (hC : s.heap.get? C = some (codeObj code)) (hx : b.size ≤ 16777216)
    (hrun : M.runFor (4 * k) (forMatch code (b.map (·.toNat)) g 0 b.size false false) = m)
    (hm : isMatched m = true) (hw : wrongOf g m = false)
    (h : ∀ X Tp h', s.heap.get? X = none → s.heap.get? Tp = none → X ≠ Tp → h'.get? X = some (matObj (.bytes b t) (.ref P) 0 b.size m.lastindex Tp) →
      h'.get? Tp = some (tupObj (rawInt m.start :: rawInt m.handed :: (spansOf g m).map rawInt)) →
      (∀ a o, s.heap.get? a = some o → h'.get? a = some o) → Q (.ref X) { s with heap := h' }) :
    wpAny (model prog w) A (call (.builtin "re.Pattern.match") [.ref P, .bytes b t]) Q E s := by
  subst hrun
  have hT : s.TypeIs (.ref P) "re.Pattern" := ⟨_, hP, rfl⟩
  refine wpAny_call_entry RE.slot_match hT RE.entry_match ?_ (RE.args_match _ _)
  unfold «re.Pattern.match»
  refine wpAny_bind (target_bytes RE.named_match hP hC hx ?_)
  unfold reAnswer
  refine wpAny_bind (wp_toEnd k hk hk' hm ?_)
  dsimp only
  refine wpAny_bind (wp_newMatch hw hg fun X Tp h' h1 h2 h3 h4 h5 h6 => ?_)
  exact wpAny_pure ⟨_, rfl, h X Tp h' h1 h2 h3 h4 h5 h6⟩
end
end Mine
end
section
open PySem PySem.Sre PySem.W PySem.Calls PySem.Spec PyProof.Rows
set_option maxRecDepth 100000
namespace Mine
open Builtin Builtin.Re
section
variable {prog : Program} {w : World} {A : Around} {E : Value → Shared → Prop} {s : Shared}
theorem wp_rawTup {M' : Model} {C : Addr} {l : List Int} {Q : Array Int → Shared → Prop} (h : s.heap.get? C = some (tupObj (l.map rawInt))) (hq : Q l.toArray s) : wpAny M' A (reRawItems (.ref C)) Q E s := by
  unfold reRawItems seqItems?
  refine wpAny_bind (wpAny_bind (wpAny_load h (wpAny_pure (wpAny_pure ?_))))
  show Q (((some (l.map rawInt).toArray).getD #[]).map reRawOf) s
  have e : ((some (l.map rawInt).toArray).getD #[]).map reRawOf = l.toArray := by
    rw [Option.getD_some, List.map_toArray, List.map_map]
    have : (reRawOf ∘ rawInt) = _root_.id := by funext n; rfl
    rw [this, List.map_id]
  rw [e]
  exact hq
theorem wp_found {M' : Model} {X Tp : Addr} {str pat : Value} {pos lim li : Int} {l : List Int} {Q : ReFound → Shared → Prop} (hX : s.heap.get? X = some (matObj str pat pos lim li Tp)) (hT : s.heap.get? Tp = some (tupObj (l.map rawInt)))
    (hq : Q { fields := #[str, pat, rawInt pos, rawInt lim, rawInt li, .ref Tp], spans := l.toArray } s) : wpAny M' A (reFound (.ref X)) Q E s := by
  unfold reFound
  refine wpAny_bind (wp_fieldsOf hX rfl ?_)
  exact wpAny_bind (wp_rawTup hT (wpAny_pure hq))
theorem noKw {args : Args} (h : args.kw = []) : noKeywords "Match.group" args = pure () := by
  unfold noKeywords
  rw [h]
  rfl
theorem wp_num {M' : Model} {x : ReFound} {n : Nat} {t : Tok} {Q : Nat → Shared → Prop} (hn : 2 * n < x.spans.size) (hq : Q n s) : wpAny M' A (reGroupNumber x (.int (n : Int) t)) Q E s := by
  unfold reGroupNumber
  refine wpAny_bind (wpAny_of_eq (a := some (n : Int)) rfl ?_)
  refine bm_if_true rfl ?_
  refine wpAny_bind (wpAny_of_eq (a := (n : Int)) rfl ?_)
  refine bm_if_false ?_ ?_
  · simp only [Bool.or_eq_false_iff, decide_eq_false_iff_not]
    omega
  · exact wpAny_pure (by rw [Int.toNat_natCast]; exact hq)
theorem group_none {X Tp : Addr} {str pat : Value} {pos lim li : Int} {l : List Int} {n : Nat} {t : Tok} {Q : Value → Shared → Prop} (hX : s.heap.get? X = some (matObj str pat pos lim li Tp)) (hT : s.heap.get? Tp = some (tupObj (l.map rawInt)))
    (hn : 2 * n < l.length) (hb : l.getD (2 * n) (-1) < 0) (hq : Q .none s) : wpAny (model prog w) A (call (.builtin "re.Match.group") [.ref X, .int (n : Int) t]) Q E s := by
  have hTy : s.TypeIs (.ref X) "re.Match" := ⟨_, hX, rfl⟩
  refine wpAny_call_entry RE.slot_group hTy RE.entry_group ?_ (RE.args_group _ _)
  unfold «re.Match.group»
  refine wpAny_bind (wpAny_of_eq (noKw rfl) ?_)
  refine wpAny_bind (wp_found hX hT ?_)
  refine wpAny_bind (wp_num (by simpa using hn) ?_)
  unfold reGroupText
  refine wpAny_bind (bm_if_true ?_ (wpAny_pure ?_))
  · have e : (l.toArray.getD (2 * n) (-1)) = l.getD (2 * n) (-1) := by simp [Array.getD, List.getD, List.getElem?_eq_getElem hn, hn]
    show (decide (l.toArray.getD (2 * n) (-1) < 0) || decide (l.toArray.getD (2 * n + 1) (-1) < 0)) = true
    rw [e, decide_eq_true hb, Bool.true_or]
  · exact wpAny_pure ⟨_, rfl, hq⟩
theorem group_str {X Tp : Addr} {x : Str} {tx : Tok} {pat : Value} {pos lim li : Int} {l : List Int} {n b e : Nat} {t : Tok} {Q : Value → Shared → Prop} (hX : s.heap.get? X = some (matObj (.str x tx) pat pos lim li Tp)) (hT : s.heap.get? Tp = some (tupObj (l.map rawInt)))
    (hn : 2 * n < l.length) (hb : l.getD (2 * n) (-1) = (b : Int)) (he : l.getD (2 * n + 1) (-1) = (e : Int)) (hx : x.cps.size ≤ 16777216) (hq : Q (.str ⟨x.cps.extract b e⟩ s.toks) { s with toks := s.toks + 1 }) :
    wpAny (model prog w) A (call (.builtin "re.Match.group") [.ref X, .int (n : Int) t]) Q E s := by
  have hTy : s.TypeIs (.ref X) "re.Match" := ⟨_, hX, rfl⟩
  refine wpAny_call_entry RE.slot_group hTy RE.entry_group ?_ (RE.args_group _ _)
  unfold «re.Match.group»
  refine wpAny_bind (wpAny_of_eq (noKw rfl) ?_)
  refine wpAny_bind (wp_found hX hT ?_)
  refine wpAny_bind (wp_num (by simpa using hn) ?_)
  unfold reGroupText
  have e1 : l.toArray.getD (2 * n) (-1) = (b : Int) := by rw [← hb]; simp [Array.getD, List.getD, List.getElem?_eq_getElem hn, hn]
  have e2 : l.toArray.getD (2 * n + 1) (-1) = (e : Int) := by
    rw [← he]
    by_cases h : 2 * n + 1 < l.length
    · simp [Array.getD, List.getD, List.getElem?_eq_getElem h, h]
    · simp [Array.getD, List.getD, h]
  refine wpAny_bind ?_
  show wpAny _ _ (if (decide (l.toArray.getD (2 * n) (-1) < 0) || decide (l.toArray.getD (2 * n + 1) (-1) < 0)) = true then _ else (reTextOf (.str x tx) >>= fun r => reSlice r.1 r.2 (l.toArray.getD (2 * n) (-1)).toNat (l.toArray.getD (2 * n + 1) (-1)).toNat)) _ _ _
  rw [e1, e2]
  refine bm_if_false ?_ ?_
  · simp only [Bool.or_eq_false_iff, decide_eq_false_iff_not]
    omega
  · refine wpAny_bind (wpAny_of_eq (a := (x.cps, 0)) rfl ?_)
    show wpAny _ _ (mkStr ⟨x.cps.extract (b : Int).toNat (e : Int).toNat⟩) _ _ _
    rw [Int.toNat_natCast, Int.toNat_natCast]
    refine wpAny_mkStr (wpAny_pure ⟨_, rfl, hq⟩) ?_
    rw [sizeLine_eq]
    show (x.cps.extract b e).size ≤ _
    rw [Array.size_extract]
    omega
theorem match_truthy {X : Addr} {o : Obj} {Q : Bool → Shared → Prop} (hX : s.heap.get? X = some o) (hc : o.cls = .type "re.Match") (hq : Q true s) : wpAny (model prog w) A (truthy (.ref X)) Q E s := by
  have hTy : s.TypeIs (.ref X) "re.Match" := ⟨_, hX, hc⟩
  unfold truthy
  have hno : ∀ GG : Option Value → Shared → Prop, GG none s → wpAny (model prog w) A (callSpecial? (.ref X) (Str.ofString "__bool__")) GG E s := fun GG hg => by
    unfold callSpecial?
    exact wpAny_bind (wpAny_specialOf hTy RE.no_bool (wpAny_pure hg))
  show wpAny _ _ (callSpecial? (.ref X) (Str.ofString "__bool__") >>= fun r => _) _ _ _
  refine wpAny_bind (hno _ ?_)
  show wpAny _ _ (specialOf (.ref X) (Str.ofString "__len__") >>= fun r => _) _ _ _
  refine wpAny_bind (wpAny_specialOf hTy RE.no_len ?_)
  exact wpAny_pure hq
theorem meth_search {P : Addr} {o : Obj} {pl : Sem Bool} {Q : Value × List Value → Shared → Prop} (hP : s.heap.get? P = some o) (hc : o.cls = .type "re.Pattern") (hd : o.dict = none) (h : Q (.builtin "re.Pattern.search", [.ref P]) s) : wpAny (model prog w) A (getMethod (.ref P) "search" pl) Q E s :=
  getMethod_builtin (T := "re.Pattern") ⟨_, hP, hc⟩ RE.plain_pat RE.slot_search RE.type_search (fun a e => by injection e with e; subst e; exact ⟨o, hP, hd⟩) h
theorem meth_match {P : Addr} {o : Obj} {pl : Sem Bool} {Q : Value × List Value → Shared → Prop} (hP : s.heap.get? P = some o) (hc : o.cls = .type "re.Pattern") (hd : o.dict = none) (h : Q (.builtin "re.Pattern.match", [.ref P]) s) : wpAny (model prog w) A (getMethod (.ref P) "match" pl) Q E s :=
  getMethod_builtin (T := "re.Pattern") ⟨_, hP, hc⟩ RE.plain_pat RE.slot_match RE.type_match (fun a e => by injection e with e; subst e; exact ⟨o, hP, hd⟩) h
theorem meth_group {P : Addr} {o : Obj} {pl : Sem Bool} {Q : Value × List Value → Shared → Prop} (hP : s.heap.get? P = some o) (hc : o.cls = .type "re.Match") (hd : o.dict = none) (h : Q (.builtin "re.Match.group", [.ref P]) s) : wpAny (model prog w) A (getMethod (.ref P) "group" pl) Q E s :=
  getMethod_builtin (T := "re.Match") ⟨_, hP, hc⟩ RE.plain_mat RE.slot_group RE.type_group (fun a e => by injection e with e; subst e; exact ⟨o, hP, hd⟩) h
end
end Mine
end
section
open PySem PySem.Sre PySem.W PySem.Calls PySem.Spec PyProof.Rows
set_option maxRecDepth 100000
namespace Mine
/-- all that group asks of -/
def tzS (sg hd co : Nat) : List Int :=
  let a : Nat := if sg = 0 then 0 else 1
  [0, ((a + hd + co + 2 : Nat) : Int), if sg = 0 then -1 else 0, if sg = 0 then -1 else 1, (a : Int), ((a + hd : Nat) : Int), ((a + hd + co : Nat) : Int), ((a + hd + co + 2 : Nat) : Int)]
structure TzOk (sg hd co : Nat) : Prop where
  s : sg = 0 ∨ sg = 1 ∨ sg = 2
  h : hd = 1 ∨ hd = 2
  c : co = 0 ∨ co = 1
theorem tz_len {sg hd co : Nat} (ok : TzOk sg hd co) : (tzShape sg hd co).length = (if sg = 0 then 0 else 1) + hd + co + 2 := by
  obtain ⟨h1, h2, h3⟩ := ok
  rcases h1 with rfl | rfl | rfl <;> rcases h2 with rfl | rfl <;> rcases h3 with rfl | rfl <;> rfl
theorem tz_S {sg hd co : Nat} (ok : TzOk sg hd co) : 0 :: ((tzShape sg hd co).length : Int) :: tzSpans sg hd co = tzS sg hd co := by
  obtain ⟨h1, h2, h3⟩ := ok
  rcases h1 with rfl | rfl | rfl <;> rcases h2 with rfl | rfl <;> rcases h3 with rfl | rfl <;> rfl
theorem tz_search {sg hd co : Nat} (ok : TzOk sg hd co) {t : Array Nat} (ht : t.map clsC = (tzShape sg hd co).toArray) :
    isMatched (M.runFor (4 * 100) (forSearch tzCode t 3 0 t.size false)) = true ∧ wrongOf 3 (M.runFor (4 * 100) (forSearch tzCode t 3 0 t.size false)) = false ∧
      (((M.runFor (4 * 100) (forSearch tzCode t 3 0 t.size false)).start : Int) :: ((M.runFor (4 * 100) (forSearch tzCode t 3 0 t.size false)).handed : Int) :: spansOf 3 (M.runFor (4 * 100) (forSearch tzCode t 3 0 t.size false))) = tzS sg hd co := by
  have hsz : t.size = (tzShape sg hd co).length := by
    have := congrArg Array.size ht
    simpa using this
  have hg : tzGood sg hd co = true := by
    obtain ⟨h1, h2, h3⟩ := ok
    exact tz_good sg (by rcases h1 with rfl | rfl | rfl <;> decide) hd (by rcases h2 with rfl | rfl <;> decide) co (by rcases h3 with rfl | rfl <;> decide)
  have hst : forSearch tzCode t 3 0 t.size false = Tx t (tzStart (tzShape sg hd co)) := by
    rw [hsz]
    obtain ⟨h1, h2, h3⟩ := ok
    clear hg hsz ht
    rcases h1 with rfl | rfl | rfl <;> rcases h2 with rfl | rfl <;> rcases h3 with rfl | rfl <;> rfl
  unfold tzGood at hg
  simp only [Bool.and_eq_true, decide_eq_true_eq, beq_iff_eq, Bool.not_eq_true'] at hg
  obtain ⟨⟨⟨⟨⟨g1, g2⟩, g3⟩, g4⟩, g5⟩, g6⟩ := hg
  have hr := run_same ht 400 _ g1
  rw [hst, show 4 * 100 = 400 from rfl, hr]
  refine ⟨g2, g4, ?_⟩
  show ((M.runFor 400 (tzStart (tzShape sg hd co))).start : Int) :: ((M.runFor 400 (tzStart (tzShape sg hd co))).handed : Int) :: spansOf 3 (M.runFor 400 (tzStart (tzShape sg hd co))) = _
  rw [g3, g5, g6]
  exact tz_S ok
theorem tz_pat (w : World) : List.lookup 37 (KK w) = some (patObj (.str ⟨#[94, 40, 91, 45, 43, 93, 41, 63, 40, 92, 100, 92, 100, 63, 41, 58, 63, 40, 92, 100, 92, 100, 41, 63, 36]⟩ 294) (.int 256 368) .none .none 3 36 0 0) := by
  first | rfl | with_unfolding_all rfl | kernel_rfl
theorem tz_code (w : World) : List.lookup 36 (KK w) = some (codeObj tzCode) := by
  first | rfl | with_unfolding_all rfl | kernel_rfl
theorem fr_at {h₀ h : Heap} {L a : Addr} {o : Obj} {m : Str → Option Value} (F : Fr h₀ L h m) (e : h₀.get? a = some o) : h.get? a = some o := F.keep _ _ e
theorem news_at {h₀ h : Heap} {L a : Addr} {o : Obj} {news : List (Addr × Obj)} (N : News h₀ L h news) (hm : (a, o) ∈ news) : h.get? a = some o := (N _ hm).1
section
variable {prog : Program} {w : World} {A : Around} {E : Value → Shared → Prop} {s : Shared} {h₀ : Heap} {L : Addr} {m : Str → Option Value} {news : List (Addr × Obj)}
theorem searchC {sg hd co : Nat} {x : Str} {t : Tok} {Q : Value → Shared → Prop} (ok : TzOk sg hd co) (hx : x.cps.map clsC = (tzShape sg hd co).toArray) (F : Fr h₀ L s.heap m) (X : (KK w).In h₀) (N : News h₀ L s.heap news)
    (h : ∀ X Tp n li h', Fr h₀ L h' m → News h₀ L h' ((X, matObj (.str x t) (.ref 37) 0 n li Tp) :: (Tp, tupObj ((tzS sg hd co).map rawInt)) :: news) → X ≠ Tp → (∀ p ∈ news, p.1 ≠ X) → (∀ p ∈ news, p.1 ≠ Tp) → Q (.ref X) { s with heap := h' }) :
    wpAny (model prog w) A (call (.builtin "re.Pattern.search") [.ref 37, .str x t]) Q E s := by
  have hP := fr_at F (X _ _ (tz_pat w))
  have hC := fr_at F (X _ _ (tz_code w))
  obtain ⟨z1, z2, z3⟩ := tz_search ok hx
  have hsz : x.cps.size ≤ 16777216 := by
    have e : x.cps.size = (tzShape sg hd co).length := by simpa using congrArg Array.size hx
    rw [tz_len ok] at e
    obtain ⟨h1, h2, h3⟩ := ok
    split at e <;> omega
  refine call_search 100 (by omega) (by omega) (by omega) hP hC hsz z1 z2 fun X Tp h' h1 h2 h3 h4 h5 h6 => ?_
  have h5' : h'.get? Tp = some (tupObj ((tzS sg hd co).map rawInt)) := h5.trans (congrArg (fun l : List Int => some (tupObj (l.map rawInt))) z3)
  have N1 := news_add F (news_keeps N h6) h2 h5'
  have N2 := news_add F N1 h1 h4
  exact h X Tp _ _ h' (fr_keeps F h6) N2 h3 (news_ne N h1) (news_ne N h2)
end
end Mine
end
section
open PySem PySem.Sre PySem.W PySem.Calls PySem.Spec PyProof.Rows
set_option maxRecDepth 100000
namespace Mine
def numL (l : List Nat) : Int := l.foldl (fun (v : Int) (c : Nat) => 10 * v + ((c : Int) - 48)) 0
def tzL (sg : Nat) (hs : List Nat) (co : Nat) (ms : List Nat) : List Nat := (if sg = 1 then [43] else if sg = 2 then [45] else []) ++ hs ++ (if co = 1 then [58] else []) ++ ms
structure TzTx (sg : Nat) (hs : List Nat) (co : Nat) (ms : List Nat) : Prop where
  ok : TzOk sg hs.length co
  dh : ∀ c ∈ hs, isDigit c = true
  dm : ∀ c ∈ ms, isDigit c = true
  lm : ms.length = 2
theorem cls_d {c : Nat} (h : isDigit c = true) : clsC c = 48 := by unfold clsC; rw [if_pos h]
theorem len2 {l : List Nat} (h : l.length = 2) : ∃ a b, l = [a, b] := by
  match l, h with
  | [a, b], _ => exact ⟨a, b, rfl⟩
theorem len1 {l : List Nat} (h : l.length = 1) : ∃ a, l = [a] := by
  match l, h with
  | [a], _ => exact ⟨a, rfl⟩
theorem tz_all {sg co : Nat} {hs ms : List Nat} (h : TzTx sg hs co ms) {x : Str} (hx : x.cps = (tzL sg hs co ms).toArray) :
    x.cps.map clsC = (tzShape sg hs.length co).toArray ∧ x.cps.getD 0 0 < 60 ∧
    x.cps.extract (if sg = 0 then 0 else 1) ((if sg = 0 then 0 else 1) + hs.length) = hs.toArray ∧
    x.cps.extract ((if sg = 0 then 0 else 1) + hs.length + co) ((if sg = 0 then 0 else 1) + hs.length + co + 2) = ms.toArray ∧
    (sg ≠ 0 → x.cps.extract 0 1 = #[if sg = 1 then 43 else 45]) ∧ x.cps.size ≤ 10 := by
  obtain ⟨⟨h1, h2, h3⟩, dh, dm, lm⟩ := h
  rw [hx]
  obtain ⟨m1, m2, rfl⟩ := len2 lm
  have e1 := cls_d (dm m1 (by simp))
  have e2 := cls_d (dm m2 (by simp))
  rcases h2 with h2 | h2
  · obtain ⟨a, rfl⟩ := len1 h2
    have e3 := cls_d (dh a (by simp))
    have d3 := dh a (by simp)
    simp only [isDigit, Bool.and_eq_true, decide_eq_true_eq] at d3
    rcases h1 with rfl | rfl | rfl <;> rcases h3 with rfl | rfl <;>
      (refine ⟨by simp [tzL, tzShape, e1, e2, e3] <;> decide, ?_, by simp [tzL], by simp [tzL], ?_, by simp [tzL]⟩ <;> simp [tzL, Array.getD] <;> omega)
  · obtain ⟨a, b, rfl⟩ := len2 h2
    have e3 := cls_d (dh a (by simp))
    have e4 := cls_d (dh b (by simp))
    have d3 := dh a (by simp)
    simp only [isDigit, Bool.and_eq_true, decide_eq_true_eq] at d3
    rcases h1 with rfl | rfl | rfl <;> rcases h3 with rfl | rfl <;>
      (refine ⟨by simp [tzL, tzShape, e1, e2, e3, e4] <;> decide, ?_, by simp [tzL], by simp [tzL], ?_, by simp [tzL]⟩ <;> simp [tzL, Array.getD] <;> omega)
theorem int1 : ∀ a < 10, PySem.intText? ⟨#[48 + a]⟩ = some (numL [48 + a]) := by decide +kernel
theorem int2 : ∀ a < 10, ∀ b < 10, PySem.intText? ⟨#[48 + a, 48 + b]⟩ = some (numL [48 + a, 48 + b]) := by decide +kernel
theorem int_digits {l : List Nat} (h : l.length = 1 ∨ l.length = 2) (hd : ∀ c ∈ l, isDigit c = true) : PySem.intText? ⟨l.toArray⟩ = some (numL l) := by
  rcases h with h | h
  · obtain ⟨a, rfl⟩ := len1 h
    have d := hd a (by simp)
    simp only [isDigit, Bool.and_eq_true, decide_eq_true_eq] at d
    obtain ⟨k, rfl⟩ : ∃ k, a = 48 + k := ⟨a - 48, by omega⟩
    exact int1 k (by omega)
  · obtain ⟨a, b, rfl⟩ := len2 h
    have d := hd a (by simp)
    have d' := hd b (by simp)
    simp only [isDigit, Bool.and_eq_true, decide_eq_true_eq] at d d'
    obtain ⟨k, rfl⟩ : ∃ k, a = 48 + k := ⟨a - 48, by omega⟩
    obtain ⟨j, rfl⟩ : ∃ j, b = 48 + j := ⟨b - 48, by omega⟩
    exact int2 k (by omega) j (by omega)
theorem zone_no {x a b c d : Str} (hz : x.cps.getD 0 0 < 60) (h : (decide (x = a) || (decide (x = b) || (decide (x = c) || (decide (x = d) || false)))) = true) (ha : ¬ a.cps.getD 0 0 < 60 := by decide) (hb : ¬ b.cps.getD 0 0 < 60 := by decide) (hc : ¬ c.cps.getD 0 0 < 60 := by decide) (hd : ¬ d.cps.getD 0 0 < 60 := by decide) : False := by
  simp only [Bool.or_eq_true, decide_eq_true_eq, Bool.or_false] at h
  rcases h with rfl | rfl | rfl | rfl
  · exact ha hz
  · exact hb hz
  · exact hc hz
  · exact hd hz
def tzV (sg : Nat) (hs ms : List Nat) : Int := if sg = 2 then -(3600 * numL hs + 60 * numL ms) else 3600 * numL hs + 60 * numL ms
end Mine
end
section
open PySem PySem.Sre PySem.W
set_option maxRecDepth 100000
namespace Mine
def flCode : Array Nat := #[14, 4, 0, 8, 4294967295, 24, 5, 0, 4294967295, 2, 1, 16, 70, 16, 76, 16, 65, 16, 71, 16, 83, 16, 32, 16, 40, 17, 0, 24, 6, 0, 4294967295, 20, 41, 1, 17, 1, 16, 41, 1]
abbrev St (T : Array Nat) (N pc pos handed : Nat) (marks : Array (Option Nat)) (lm li : Int) (frames : List Sre.Frame) (weight : Nat) (answer : Option Bool) (sn : Seen) (oc : Option Sre.Outcome) : M :=
  { code := flCode, text := T, lim := N, start := 0, pc, pos, handed, marks, lastmark := lm, lastindex := li, frames, weight, answer, seen := sn, outcome := oc }
/-- n steps lead from m to m' -/
def Rch (n : Nat) (m m' : M) : Prop := M.runFor n m = m'
theorem Rch.trans {a b : Nat} {m m' m'' : M} (h : Rch a m m') (h' : Rch b m' m'') : Rch (a + b) m m'' := by
  unfold Rch at *
  rw [run_add, h, h']
theorem Rch.one {m m' : M} (ho : m.outcome = none) (h : m.step = m') : Rch 1 m m' := by
  unfold Rch
  rw [run_succ, ho]
  exact h
theorem acc_lit {pc c : Nat} (h : ops[flCode.getD pc 0]? = some .LITERAL) (hc : flCode.getD (pc + 1) 0 = c) (x : Nat) (sn : Seen) : accepts flCode pc x sn = .ok (x == c, sn) := by
  unfold accepts
  rw [h, hc]
section
variable {T : Array Nat} {N pc p hd w : Nat} {mk : Array (Option Nat)} {lm li : Int} {fs : List Sre.Frame} {sn : Seen}
theorem lit_step (h : ops[flCode.getD pc 0]? = some .LITERAL) {c : Nat} (hc : flCode.getD (pc + 1) 0 = c) (hp : pc < 39) :
    (St T N pc p hd mk lm li fs w none sn none).step = if p ≥ N then St T N pc p hd mk lm li fs w (some false) (sn.add (flCode.getD pc 0)) none else
      if (T.getD p 0 == c) = true then St T N (pc + 2) (p + 1) hd mk lm li fs w none (sn.add (flCode.getD pc 0)) none else St T N pc p hd mk lm li fs w (some false) (sn.add (flCode.getD pc 0)) none := by
  have hw : (St T N pc p hd mk lm li fs w none sn none).word 0 = flCode.getD pc 0 := rfl
  have e1 : (St T N pc p hd mk lm li fs w none sn none).step = (St T N pc p hd mk lm li fs w none sn none).exec := by
    unfold M.step
    show (if pc < flCode.size then _ else _) = _
    rw [if_pos (show pc < flCode.size from hp)]
  rw [e1]
  unfold M.exec
  rw [hw, h]
  show (if p ≥ N then _ else match accepts flCode pc (T.getD p 0) (sn.add (flCode.getD pc 0)) with | .error why => _ | .ok (false, seen) => _ | .ok (true, seen) => _) = _
  rw [acc_lit h hc]
  split
  · rfl
  · cases hx : (T.getD p 0 == c) with
    | true =>
      have hi : itemWidth flCode pc = 2 := by unfold itemWidth; rw [h]
      rw [if_pos rfl]
      show St T N (pc + itemWidth flCode pc) (p + 1) hd mk lm li fs w none (sn.add (flCode.getD pc 0)) none = _
      rw [hi]
    | false =>
      rw [if_neg Bool.false_ne_true]
      rfl
theorem lit_yes (h : ops[flCode.getD pc 0]? = some .LITERAL) {c : Nat} (hc : flCode.getD (pc + 1) 0 = c) (hp : pc < 39) (hN : p < N) (hT : T.getD p 0 = c) :
    ∃ sn', Rch 1 (St T N pc p hd mk lm li fs w none sn none) (St T N (pc + 2) (p + 1) hd mk lm li fs w none sn' none) := by
  refine ⟨sn.add (flCode.getD pc 0), Rch.one rfl ?_⟩
  rw [lit_step h hc hp, if_neg (by omega), if_pos (by rw [hT]; exact beq_self_eq_true c)]
theorem lit_no (h : ops[flCode.getD pc 0]? = some .LITERAL) {c : Nat} (hc : flCode.getD (pc + 1) 0 = c) (hp : pc < 39) (hT : p < N → T.getD p 0 ≠ c) :
    ∃ sn', Rch 1 (St T N pc p hd mk lm li fs w none sn none) (St T N pc p hd mk lm li fs w (some false) sn' none) := by
  refine ⟨sn.add (flCode.getD pc 0), Rch.one rfl ?_⟩
  rw [lit_step h hc hp]
  by_cases hN : p ≥ N
  · rw [if_pos hN]
  · rw [if_neg hN, if_neg (by rw [beq_eq_false_iff_ne.mpr (hT (by omega))]; exact Bool.false_ne_true)]
theorem run_any : ∀ (n p f : Nat) (sn : Seen), (∀ q, p ≤ q → q < p + n → T.getD q 0 ≠ 10) → Sre.run flCode T 9 n p f sn = .ok (f + n, sn)
  | 0, _, _, _, _ => rfl
  | n + 1, p, f, sn, h => by
    unfold Sre.run
    have e : accepts flCode 9 (T.getD p 0) sn = .ok (true, sn) := by
      show Except.ok (T.getD p 0 != 10, sn) = _
      have : (T.getD p 0 != 10) = true := by simpa using h p (Nat.le_refl _) (by omega)
      rw [this]
    rw [e]
    show Sre.run flCode T 9 n (p + 1) (f + 1) sn = _
    rw [run_any n (p + 1) (f + 1) sn fun q h1 h2 => h q (by omega) (by omega)]
    congr 2
    omega
theorem run_not : ∀ (b n p f : Nat) (sn : Seen), b < n → (∀ q, p ≤ q → q < p + b → T.getD q 0 ≠ 41) → T.getD (p + b) 0 = 41 → Sre.run flCode T 31 n p f sn = .ok (f + b, sn)
  | b, 0, _, _, _, hb, _, _ => by omega
  | 0, n + 1, p, f, sn, _, _, h2 => by
    unfold Sre.run
    have e : accepts flCode 31 (T.getD p 0) sn = .ok (false, sn) := by
      show Except.ok (T.getD p 0 != 41, sn) = _
      have : T.getD p 0 = 41 := h2
      rw [this]
      rfl
    rw [e]
    rfl
  | b + 1, n + 1, p, f, sn, hb, h, h2 => by
    unfold Sre.run
    have e : accepts flCode 31 (T.getD p 0) sn = .ok (true, sn) := by
      show Except.ok (T.getD p 0 != 41, sn) = _
      have : (T.getD p 0 != 41) = true := by simpa using h p (Nat.le_refl _) (by omega)
      rw [this]
    rw [e]
    show Sre.run flCode T 31 n (p + 1) (f + 1) sn = _
    rw [run_not b n (p + 1) (f + 1) sn (by omega) (fun q h1 h3 => h q (by omega) (by omega)) (by rw [← h2]; congr 1; omega)]
    congr 2
    omega
abbrev gb1 (p : Nat) : Sre.Frame := { wait := .giveBack, pc := 5, pos := p, outermost := true, count := p, kept := {} }
abbrev m2 : Array (Option Nat) := #[none, none]
theorem rep_step {m : M} (ho : m.outcome = none) (ha : m.answer = none) (hp : m.pc < m.code.size) (h : ops[m.word 0]? = some .REPEAT_ONE) {n : Nat} {s' : Seen}
    (hr : Sre.run m.code m.text (m.pc + 4) (min (m.word 3) ((m.lim : Int) - m.pos).toNat) m.pos 0 ((m.seen.add (m.word 0)).add (m.word 4)) = .ok (n, s')) (hl : ¬ ((m.word 2 : Nat) : Int) > (m.lim : Int) - m.pos) (hn : ¬ n < m.word 2) :
    m.step = M.afterRun { m with seen := s', pos := m.pos + n } .giveBack n (m.keep m.inner.isSome) := by
  have e1 : m.step = m.exec := by
    unfold M.step
    rw [ho, ha]
    show (if m.pc < m.code.size then m.exec else _) = _
    rw [if_pos hp]
  rw [e1]
  have key : (if ((m.word 2 : Nat) : Int) > (m.lim : Int) - m.pos then M.say { m with seen := m.seen.add (m.word 0) } false else
      match Sre.run m.code m.text (m.pc + 4) (min (m.word 3) ((m.lim : Int) - m.pos).toNat) m.pos 0 ((m.seen.add (m.word 0)).add (m.word 4)) with
      | .error why => M.stick { m with seen := m.seen.add (m.word 0) } why
      | .ok (n, seen) =>
        if n < m.word 2 then M.say { m with seen } false else M.afterRun { m with seen, pos := m.pos + n } .giveBack n (m.keep m.inner.isSome)) = M.afterRun { m with seen := s', pos := m.pos + n } .giveBack n (m.keep m.inner.isSome) := by
    rw [if_neg hl, hr]
    dsimp only
    rw [if_neg hn]
  unfold M.exec
  rw [h]
  exact key
/-- the first word run to the end -/
theorem first (hN : N < 4294967295) (hT : ∀ q, q < N → T.getD q 0 ≠ 10) : ∃ sn', Rch 1 (St T N 5 0 0 m2 (-1) (-1) [] 0 none sn none) (St T N 11 N N m2 (-1) (-1) [gb1 N] 1 none sn' none) := by
  refine ⟨(sn.add 24).add 2, Rch.one rfl ?_⟩
  have hm : min 4294967295 ((N : Int) - ((0 : Nat) : Int)).toNat = N := by omega
  refine (rep_step (n := N) (s' := (sn.add 24).add 2) rfl rfl (show (5 : Nat) < 39 by decide) rfl ?_ (by show ¬ ((0 : Nat) : Int) > (N : Int) - ((0 : Nat) : Int); omega) (Nat.not_lt_zero _)).trans ?_
  · show Sre.run flCode T 9 (min 4294967295 ((N : Int) - ((0 : Nat) : Int)).toNat) 0 0 ((sn.add 24).add 2) = _
    rw [hm, run_any N 0 0 _ fun q _ h => hT q (by omega), Nat.zero_add]
  · show St T N 11 (0 + N) (0 + N) m2 (-1) (-1) [{ wait := .giveBack, pc := 5, pos := 0 + N, outermost := true, count := N, kept := {} }] 1 none ((sn.add 24).add 2) none = _
    rw [Nat.zero_add]
/-- the second word run -/
theorem second {b : Nat} (hb : p + b < N) (hN : N < 4294967295) (h : ∀ q, p ≤ q → q < p + b → T.getD q 0 ≠ 41) (h2 : T.getD (p + b) 0 = 41) :
    ∃ sn', Rch 1 (St T N 27 p hd mk lm li fs 1 none sn none) (St T N 34 (p + b) (p + b) mk lm li ({ wait := .giveBack, pc := 27, pos := p + b, outermost := true, count := b, kept := { lastmark := lm, lastindex := li } } :: fs) 2 none sn' none) := by
  refine ⟨(sn.add 24).add 20, Rch.one rfl ?_⟩
  refine (rep_step (n := b) (s' := (sn.add 24).add 20) rfl rfl (show (27 : Nat) < 39 by decide) rfl ?_ (by show ¬ ((0 : Nat) : Int) > (N : Int) - (p : Int); omega) (Nat.not_lt_zero _)).trans ?_
  · show Sre.run flCode T 31 (min 4294967295 ((N : Int) - (p : Int)).toNat) p 0 ((sn.add 24).add 20) = _
    rw [run_not b _ p 0 _ (by omega) h h2, Nat.zero_add]
  · rfl
theorem give (hp : 1 ≤ p) : ∃ sn', Rch 1 (St T N 11 p hd m2 (-1) (-1) [gb1 p] 1 (some false) sn none) (St T N 11 (p - 1) (p - 1) m2 (-1) (-1) [gb1 (p - 1)] 1 none sn' none) := by
  refine ⟨sn, Rch.one rfl ?_⟩
  show (if ((p : Nat) : Int) - 1 < ((0 : Nat) : Int) then _ else _) = _
  rw [if_neg (by omega)]
  have e : ((p : Nat) : Int) - 1 = ((p - 1 : Nat) : Int) := by omega
  show St T N 11 (p - 1) (p - 1) m2 (-1) (-1) [{ wait := .giveBack, pc := 5, pos := p - 1, outermost := true, count := (p : Int) - 1, kept := {} }] 1 none sn none = _
  rw [e]
theorem mark0 : Rch 1 (St T N 25 p hd m2 (-1) (-1) fs w none sn none) (St T N 27 p hd #[some p, none] 0 (-1) fs w none (sn.add 17) none) := Rch.one rfl rfl
theorem mark1' {p0 : Nat} : Rch 1 (St T N 34 p hd #[some p0, none] 0 (-1) fs w none sn none) (St T N 36 p hd #[some p0, some p] 1 ((1 / 2 + 1 : Nat) : Int) fs w none (sn.add 17) none) := Rch.one rfl rfl
theorem mark1 {p0 : Nat} : Rch 1 (St T N 34 p hd #[some p0, none] 0 (-1) fs w none sn none) (St T N 36 p hd #[some p0, some p] 1 1 fs w none (sn.add 17) none) := by
  have h := mark1' (T := T) (N := N) (p := p) (hd := hd) (fs := fs) (w := w) (sn := sn) (p0 := p0)
  rw [show ((1 / 2 + 1 : Nat) : Int) = 1 from by decide] at h
  exact h
theorem succ_ : Rch 1 (St T N 38 p hd mk lm li fs w none sn none) (St T N 38 p p mk lm li fs w (some true) (sn.add 1) none) := Rch.one rfl rfl
theorem back2 {b : Nat} : Rch 1 (St T N pc p hd mk lm li ({ wait := .giveBack, pc := 27, pos := b, outermost := true, count := 0, kept := { lastmark := 0, lastindex := -1 } } :: fs) 2 (some true) sn none) (St T N 27 b hd mk lm li fs 1 (some true) sn none) := Rch.one rfl rfl
theorem back2' {b c : Nat} : Rch 1 (St T N pc p hd mk lm li ({ wait := .giveBack, pc := 27, pos := b, outermost := true, count := c, kept := { lastmark := 0, lastindex := -1 } } :: fs) 2 (some true) sn none) (St T N 27 b hd mk lm li fs 1 (some true) sn none) := Rch.one rfl rfl
theorem back1 {a : Nat} : Rch 1 (St T N pc p hd mk lm li [gb1 a] 1 (some true) sn none) (St T N 5 a hd mk lm li [] 0 (some true) sn none) := Rch.one rfl rfl
theorem endM : Rch 1 (St T N pc p hd mk lm li [] 0 (some true) sn none) (St T N pc p hd mk lm li [] 0 (some true) sn (some .matched)) := Rch.one rfl rfl
theorem back {a : Nat} (hno : ∀ q, a < q → q < N → T.getD q 0 ≠ 70) : ∀ (d : Nat) (sn : Seen), a + d ≤ N → ∃ sn', Rch (2 * d) (St T N 11 (a + d) (a + d) m2 (-1) (-1) [gb1 (a + d)] 1 none sn none) (St T N 11 a a m2 (-1) (-1) [gb1 a] 1 none sn' none)
  | 0, sn, _ => ⟨sn, rfl⟩
  | d + 1, sn, h => by
    obtain ⟨s1, r1⟩ := lit_no (T := T) (N := N) (pc := 11) (p := a + (d + 1)) (hd := a + (d + 1)) (mk := m2) (lm := -1) (li := -1) (fs := [gb1 (a + (d + 1))]) (w := 1) (sn := sn) (c := 70) rfl rfl (by omega) (fun hq => hno _ (by omega) hq)
    obtain ⟨s2, r2⟩ := give (T := T) (N := N) (p := a + (d + 1)) (hd := a + (d + 1)) (sn := s1) (by omega)
    obtain ⟨s3, r3⟩ := back hno d s2 (by omega)
    refine ⟨s3, ?_⟩
    have r := (r1.trans r2).trans r3
    rw [show 2 * (d + 1) = 1 + 1 + 2 * d by omega]
    exact r
/-- the machine of Flags comes to the last "FLAGS (" -/
theorem fl_run {a b : Nat} (hN : N < 4294967295) (h10 : ∀ q, q < N → T.getD q 0 ≠ 10) (h0 : T.getD a 0 = 70) (h1 : T.getD (a + 1) 0 = 76) (h2 : T.getD (a + 1 + 1) 0 = 65) (h3 : T.getD (a + 1 + 1 + 1) 0 = 71)
    (h4 : T.getD (a + 1 + 1 + 1 + 1) 0 = 83) (h5 : T.getD (a + 1 + 1 + 1 + 1 + 1) 0 = 32) (h6 : T.getD (a + 1 + 1 + 1 + 1 + 1 + 1) 0 = 40) (hno : ∀ q, a < q → q < N → T.getD q 0 ≠ 70) (hb : ∀ q, a + 7 ≤ q → q < a + 7 + b → T.getD q 0 ≠ 41)
    (h41 : T.getD (a + 7 + b) 0 = 41) (haN : a + 7 + b < N) :
    ∃ n sn', n ≤ 2 * N + 40 ∧ Rch n (St T N 5 0 0 m2 (-1) (-1) [] 0 none sn none) (St T N 5 a (a + 7 + b + 1) #[some (a + 7), some (a + 7 + b)] 1 1 [] 0 (some true) sn' (some .matched)) := by
  obtain ⟨s0, r0⟩ := first (T := T) (N := N) (sn := sn) hN h10
  obtain ⟨s1, r1⟩ := back hno (N - a) s0 (by omega)
  rw [show a + (N - a) = N by omega] at r1
  obtain ⟨t0, l0⟩ := lit_yes (T := T) (N := N) (pc := 11) (p := a) (hd := a) (mk := m2) (lm := -1) (li := -1) (fs := [gb1 a]) (w := 1) (sn := s1) (c := 70) rfl rfl (by omega) (by omega) h0
  obtain ⟨t1, l1⟩ := lit_yes (T := T) (N := N) (pc := 13) (p := a + 1) (hd := a) (mk := m2) (lm := -1) (li := -1) (fs := [gb1 a]) (w := 1) (sn := t0) (c := 76) rfl rfl (by omega) (by omega) h1
  obtain ⟨t2, l2⟩ := lit_yes (T := T) (N := N) (pc := 15) (p := a + 1 + 1) (hd := a) (mk := m2) (lm := -1) (li := -1) (fs := [gb1 a]) (w := 1) (sn := t1) (c := 65) rfl rfl (by omega) (by omega) h2
  obtain ⟨t3, l3⟩ := lit_yes (T := T) (N := N) (pc := 17) (p := a + 1 + 1 + 1) (hd := a) (mk := m2) (lm := -1) (li := -1) (fs := [gb1 a]) (w := 1) (sn := t2) (c := 71) rfl rfl (by omega) (by omega) h3
  obtain ⟨t4, l4⟩ := lit_yes (T := T) (N := N) (pc := 19) (p := a + 1 + 1 + 1 + 1) (hd := a) (mk := m2) (lm := -1) (li := -1) (fs := [gb1 a]) (w := 1) (sn := t3) (c := 83) rfl rfl (by omega) (by omega) h4
  obtain ⟨t5, l5⟩ := lit_yes (T := T) (N := N) (pc := 21) (p := a + 1 + 1 + 1 + 1 + 1) (hd := a) (mk := m2) (lm := -1) (li := -1) (fs := [gb1 a]) (w := 1) (sn := t4) (c := 32) rfl rfl (by omega) (by omega) h5
  obtain ⟨t6, l6⟩ := lit_yes (T := T) (N := N) (pc := 23) (p := a + 1 + 1 + 1 + 1 + 1 + 1) (hd := a) (mk := m2) (lm := -1) (li := -1) (fs := [gb1 a]) (w := 1) (sn := t5) (c := 40) rfl rfl (by omega) (by omega) h6
  have k0 := mark0 (T := T) (N := N) (p := a + 7) (hd := a) (fs := [gb1 a]) (w := 1) (sn := t6)
  obtain ⟨u0, q0⟩ := second (T := T) (N := N) (p := a + 7) (hd := a) (mk := #[some (a + 7), none]) (lm := 0) (li := -1) (fs := [gb1 a]) (sn := t6.add 17) (b := b) haN hN hb h41
  have k1 := mark1 (T := T) (N := N) (p := a + 7 + b) (hd := a + 7 + b) (p0 := a + 7) (fs := [{ wait := .giveBack, pc := 27, pos := a + 7 + b, outermost := true, count := b, kept := { lastmark := 0, lastindex := -1 } }, gb1 a]) (w := 2) (sn := u0)
  obtain ⟨u1, q1⟩ := lit_yes (T := T) (N := N) (pc := 36) (p := a + 7 + b) (hd := a + 7 + b) (mk := #[some (a + 7), some (a + 7 + b)]) (lm := 1) (li := 1) (fs := [{ wait := .giveBack, pc := 27, pos := a + 7 + b, outermost := true, count := b, kept := { lastmark := 0, lastindex := -1 } }, gb1 a]) (w := 2) (sn := u0.add 17) (c := 41) rfl rfl (by omega) haN h41
  have k2 := succ_ (T := T) (N := N) (p := a + 7 + b + 1) (hd := a + 7 + b) (mk := #[some (a + 7), some (a + 7 + b)]) (lm := 1) (li := 1) (fs := [{ wait := .giveBack, pc := 27, pos := a + 7 + b, outermost := true, count := b, kept := { lastmark := 0, lastindex := -1 } }, gb1 a]) (w := 2) (sn := u1)
  have k3 := back2' (T := T) (N := N) (pc := 38) (p := a + 7 + b + 1) (hd := a + 7 + b + 1) (mk := #[some (a + 7), some (a + 7 + b)]) (lm := 1) (li := 1) (fs := [gb1 a]) (sn := u1.add 1) (b := a + 7 + b) (c := b)
  have k4 := back1 (T := T) (N := N) (pc := 27) (p := a + 7 + b) (hd := a + 7 + b + 1) (mk := #[some (a + 7), some (a + 7 + b)]) (lm := 1) (li := 1) (sn := u1.add 1) (a := a)
  have k5 := endM (T := T) (N := N) (pc := 5) (p := a) (hd := a + 7 + b + 1) (mk := #[some (a + 7), some (a + 7 + b)]) (lm := 1) (li := 1) (sn := u1.add 1)
  exact ⟨_, _, by omega, ((((((((((((((((r0.trans r1).trans l0).trans l1).trans l2).trans l3).trans l4).trans l5).trans l6).trans k0).trans q0).trans k1).trans q1).trans k2).trans k3).trans k4).trans k5)⟩
end
end Mine
end
section
open PySem PySem.Sre PySem.W PySem.Calls PySem.Spec PyProof.Rows
set_option maxRecDepth 100000
namespace Mine
open Builtin Builtin.Re
theorem forMatch_eq {T : Array Nat} {N : Nat} (hN : 8 ≤ N) : ∃ sn, forMatch flCode T 1 0 N false false = St T N 5 0 0 m2 (-1) (-1) [] 0 none sn none := by
  refine ⟨({} : Sre.Seen).add 14, ?_⟩
  show (if ((8 : Nat) != 0 && decide ((0 : Nat) ≤ N) && decide (N - 0 < 8)) = true then M.say (St T N 5 0 0 m2 (-1) (-1) [] 0 none (({} : Sre.Seen).add 14) none) false else St T N 5 0 0 m2 (-1) (-1) [] 0 none (({} : Sre.Seen).add 14) none) = _
  rw [if_neg]
  simp only [Bool.and_eq_true, decide_eq_true_eq, not_and]
  omega
theorem fl_match {T : Array Nat} {N a b : Nat} (hN : N ≤ 100000) (h10 : ∀ q, q < N → T.getD q 0 ≠ 10) (h0 : T.getD a 0 = 70) (h1 : T.getD (a + 1) 0 = 76) (h2 : T.getD (a + 1 + 1) 0 = 65) (h3 : T.getD (a + 1 + 1 + 1) 0 = 71)
    (h4 : T.getD (a + 1 + 1 + 1 + 1) 0 = 83) (h5 : T.getD (a + 1 + 1 + 1 + 1 + 1) 0 = 32) (h6 : T.getD (a + 1 + 1 + 1 + 1 + 1 + 1) 0 = 40) (hno : ∀ q, a < q → q < N → T.getD q 0 ≠ 70) (hb : ∀ q, a + 7 ≤ q → q < a + 7 + b → T.getD q 0 ≠ 41)
    (h41 : T.getD (a + 7 + b) 0 = 41) (haN : a + 7 + b < N) :
    ∃ sn, M.runFor (4 * (N + 20)) (forMatch flCode T 1 0 N false false) = St T N 5 a (a + 7 + b + 1) #[some (a + 7), some (a + 7 + b)] 1 1 [] 0 (some true) sn (some .matched) := by
  obtain ⟨s0, e0⟩ := forMatch_eq (T := T) (N := N) (by omega)
  obtain ⟨n, sn', hn, hr⟩ := fl_run (T := T) (N := N) (a := a) (b := b) (sn := s0) (by omega) h10 h0 h1 h2 h3 h4 h5 h6 hno hb h41 haN
  refine ⟨sn', ?_⟩
  rw [e0, show 4 * (N + 20) = n + (4 * (N + 20) - n) by omega, run_add]
  unfold Rch at hr
  rw [hr]
  exact run_done rfl _
theorem fl_facts {T : Array Nat} {N a b : Nat} {sn : Sre.Seen} : isMatched (St T N 5 a (a + 7 + b + 1) #[some (a + 7), some (a + 7 + b)] 1 1 [] 0 (some true) sn (some .matched)) = true ∧
    wrongOf 1 (St T N 5 a (a + 7 + b + 1) #[some (a + 7), some (a + 7 + b)] 1 1 [] 0 (some true) sn (some .matched)) = false ∧
    spansOf 1 (St T N 5 a (a + 7 + b + 1) #[some (a + 7), some (a + 7 + b)] 1 1 [] 0 (some true) sn (some .matched)) = [((a + 7 : Nat) : Int), ((a + 7 + b : Nat) : Int)] := by
  refine ⟨rfl, ?_, rfl⟩
  show ((decide (((1 : Nat) : Int) ≤ 1) && decide (a + 7 + b < a + 7)) || false) = false
  have : decide (a + 7 + b < a + 7) = false := decide_eq_false (by omega)
  rw [this]
  rfl
abbrev flagsW : Str := ⟨#[102, 108, 97, 103, 115]⟩
theorem fl_pat (w : World) : ∃ a0 a1 a4 tg, List.lookup 63 (KK w) = some (patObj a0 a1 (.ref 60) a4 1 62 1 tg) := by
  exact ⟨_, _, _, _, rfl⟩
theorem fl_code (w : World) : List.lookup 62 (KK w) = some (codeObj flCode) := by
  first | rfl | with_unfolding_all rfl
theorem fl_tab {w : World} {h : Heap} (X : (KK w).In h) : KTD.TextTab h 60 [(flagsW, KTD.Dat.flat (.int 1))] := by
  refine kt_text_in X ?_
  first | rfl | with_unfolding_all rfl
section
variable {prog : Program} {w : World} {A : Around} {E : Value → Shared → Prop} {s : Shared} {h₀ : Heap}
theorem str_noIndex : typeLookup (.type "str") "__index__" = pure none := by rw [typeLookup_type, builtinLookup_eq_fast]; kernel_rfl
theorem wp_num_flags {x : ReFound} {t : Tok} {a0 a1 a4 : Value} {tg : Tok} {Q : Nat → Shared → Prop} (hf : x.fields.getD 1 .none = .ref 63) (h63 : s.heap.get? 63 = some (patObj a0 a1 (.ref 60) a4 1 62 1 tg)) (T : KTD.Here h₀ s.heap 60 [(flagsW, KTD.Dat.flat (.int 1))]) (hn : 2 < x.spans.size)
    (hq : Q 1 { s with toks := s.toks + 1 }) : wpAny (model prog w) A (reGroupNumber x (.str flagsW t)) Q E s := by
  unfold reGroupNumber
  refine wpAny_bind (wpAny_of_eq (a := none) rfl ?_)
  refine bm_if_false rfl ?_
  refine wpAny_bind (wpAny_specialOf (typeIs_str _ _ _) str_noIndex ?_)
  refine bm_if_false rfl ?_
  rw [hf]
  refine wpAny_bind (wp_fieldsOf h63 rfl ?_)
  show wpAny _ _ (dictGet 60 (.str flagsW t) >>= fun r => _) _ _ _
  refine wpAny_bind (KTD.dictGet_text T (fun d v hd hv => ?_) fun hd => ?_)
  · have e : d = KTD.Dat.flat (.int 1) := by
      have : some (KTD.Dat.flat (.int 1)) = some d := hd
      injection this with this
      exact this.symm
    subst e
    obtain ⟨tv, rfl⟩ : ∃ tv, v = .int 1 tv := PyProof.V.Flat.int_inv hv
    refine wpAny_bind (wpAny_of_eq (a := some 1) rfl ?_)
    refine bm_if_false ?_ ?_
    · simp only [Bool.or_eq_false_iff, decide_eq_false_iff_not, Option.getD_some]
      omega
    · exact wpAny_pure hq
  · exact absurd hd (by decide)
end
end Mine
end
section
open PySem PySem.W PySem.Calls PySem.Spec PyProof.Rows
set_option maxRecDepth 100000
namespace Mine
open Builtin Builtin.Bytes
def joinW : List (List UInt8) → List UInt8
  | [] => []
  | [w] => w
  | w :: v :: ws => w ++ 32 :: joinW (v :: ws)
def WordsOk (ws : List (List UInt8)) : Prop := ∀ w ∈ ws, w ≠ [] ∧ ∀ c ∈ w, Bytes.isSpace c = false
theorem words_space (f l : Nat) (x : List UInt8) : Bytes.words (f + 1) l (32 :: x) = Bytes.words (f + 1) l x := by
  unfold Bytes.words
  have : List.dropWhile Bytes.isSpace (32 :: x) = List.dropWhile Bytes.isSpace x := rfl
  rw [this]
theorem drop_head {w x : List UInt8} (h : w ≠ []) (hw : ∀ c ∈ w, Bytes.isSpace c = false) : List.dropWhile Bytes.isSpace (w ++ x) = w ++ x := by
  cases w with
  | nil => exact absurd rfl h
  | cons c w => rw [List.cons_append, List.dropWhile_cons, hw c (by simp)]; rfl
theorem take_word {w x : List UInt8} (hw : ∀ c ∈ w, Bytes.isSpace c = false) : List.takeWhile (!Bytes.isSpace ·) (w ++ 32 :: x) = w ∧ List.dropWhile (!Bytes.isSpace ·) (w ++ 32 :: x) = 32 :: x := by
  induction w with
  | nil => exact ⟨rfl, rfl⟩
  | cons c w ih =>
    have h1 := ih fun c' h' => hw c' (by simp [h'])
    have h2 := hw c (by simp)
    rw [List.cons_append, List.takeWhile_cons, List.dropWhile_cons, h2]
    exact ⟨by simpa using h1.1, by simpa using h1.2⟩
theorem take_last {w : List UInt8} (hw : ∀ c ∈ w, Bytes.isSpace c = false) : List.takeWhile (!Bytes.isSpace ·) w = w ∧ List.dropWhile (!Bytes.isSpace ·) w = [] := by
  induction w with
  | nil => exact ⟨rfl, rfl⟩
  | cons c w ih =>
    have h1 := ih fun c' h' => hw c' (by simp [h'])
    have h2 := hw c (by simp)
    rw [List.takeWhile_cons, List.dropWhile_cons, h2]
    exact ⟨by simpa using h1.1, by simpa using h1.2⟩
theorem words_nil (f l : Nat) : Bytes.words f l [] = [] := by
  cases f <;> rfl
theorem words_join : ∀ (ws : List (List UInt8)) (f l : Nat), WordsOk ws → ws.length < f → ws.length ≤ l → Bytes.words f l (joinW ws) = ws
  | [], f, l, _, _, _ => words_nil f l
  | [w], f + 1, l, h, _, hl => by
    have hw := h w (by simp)
    unfold Bytes.words
    have e : List.dropWhile Bytes.isSpace (joinW [w]) = w := by
      have := drop_head (x := []) hw.1 hw.2
      simpa [joinW] using this
    rw [e]
    cases w with
    | nil => exact absurd rfl hw.1
    | cons c w =>
      have hl' : (l == 0) = false := by
        simp only [List.length_cons, List.length_nil] at hl
        simp only [beq_eq_false_iff_ne]
        omega
      dsimp only
      rw [hl', (take_last hw.2).1, (take_last hw.2).2, words_nil]
      rfl
  | w :: v :: ws, f + 1, l, h, hf, hl => by
    have hw := h w (by simp)
    unfold Bytes.words
    have e : List.dropWhile Bytes.isSpace (joinW (w :: v :: ws)) = w ++ 32 :: joinW (v :: ws) := drop_head hw.1 hw.2
    rw [e]
    have ih := words_join (v :: ws) f (l - 1) (fun w' h' => h w' (by simp only [List.mem_cons] at h' ⊢; exact Or.inr h')) (by simp only [List.length_cons] at hf ⊢; omega) (by simp only [List.length_cons] at hl ⊢; omega)
    cases hww : w ++ 32 :: joinW (v :: ws) with
    | nil => simp at hww
    | cons c r =>
      have hl' : (l == 0) = false := by
        simp only [List.length_cons] at hl
        simp only [beq_eq_false_iff_ne]
        omega
      dsimp only
      rw [hl', ← hww, (take_word hw.2).1, (take_word hw.2).2]
      cases f with
      | zero => simp only [List.length_cons] at hf; omega
      | succ f => rw [words_space, ih]; rfl
  | [w], 0, l, _, hf, _ => absurd hf (Nat.not_lt_zero _)
  | w :: v :: ws, 0, l, _, hf, _ => absurd hf (Nat.not_lt_zero _)
inductive BytesAre : List Value → List (List UInt8) → Prop
  | nil : BytesAre [] []
  | cons {w : List UInt8} {t : Tok} {vs ws} : BytesAre vs ws → BytesAre (.bytes w.toArray t :: vs) (w :: ws)
theorem BytesAre.length {vs ws} (h : BytesAre vs ws) : vs.length = ws.length := by
  induction h with
  | nil => rfl
  | cons _ ih => rw [List.length_cons, List.length_cons, ih]
section
variable {prog : Program} {w : World} {A : Around} {E : Value → Shared → Prop} {s : Shared}
theorem wp_mapNew {M' : Model} : ∀ (ws : List (List UInt8)) (s : Shared) {Q : List Value → Shared → Prop}, (∀ x ∈ ws, x.length ≤ 16777216) → (∀ vs tk, BytesAre vs ws → Q vs { s with toks := tk }) → wpAny M' A (ws.mapM fun x => Bytes.Kind.bytes.new x.toArray) Q E s
  | [], s, Q, _, h => by
    rw [List.mapM_nil]
    exact wpAny_pure (h [] s.toks .nil)
  | x :: ws, s, Q, hz, h => by
    rw [List.mapM_cons]
    refine wpAny_bind ?_
    show wpAny M' A (mkBytes x.toArray) _ E s
    refine wpAny_mkBytes ?_ (by rw [sizeLine_eq, List.size_toArray]; exact hz x (by simp))
    refine wpAny_bind (wp_mapNew ws _ (fun y hy => hz y (by simp [hy])) fun vs tk hv => ?_)
    exact wpAny_pure (h _ tk (.cons hv))
end
end Mine
end
section
open PySem PySem.W PySem.Calls PySem.Spec PyProof.Rows
set_option maxRecDepth 100000
namespace Mine
open Builtin Builtin.Bytes
theorem join_space : ∀ {ws : List (List UInt8)}, 2 ≤ ws.length → (32 : UInt8) ∈ joinW ws
  | [], h => absurd h (by decide)
  | [_], h => absurd h (by simp)
  | w :: v :: ws, _ => List.mem_append.mpr (.inr (List.mem_cons_self ..))
theorem join_any {ws : List (List UInt8)} (h : 2 ≤ ws.length) : (joinW ws).toArray.any Bytes.isSpace = true := by
  rw [List.any_toArray, List.any_eq_true]
  exact ⟨32, join_space h, by decide⟩
theorem len_join : ∀ {ws : List (List UInt8)}, WordsOk ws → ws.length ≤ (joinW ws).length
  | [], _ => Nat.le_refl _
  | [w], h => by
    have := (h w (by simp)).1
    cases w with
    | nil => exact absurd rfl this
    | cons c w => simp [joinW]
  | w :: v :: ws, h => by
    have ih := len_join (ws := v :: ws) fun w' h' => h w' (by simp only [List.mem_cons] at h' ⊢; exact Or.inr h')
    simp only [joinW, List.length_append, List.length_cons] at ih ⊢
    omega
theorem bind_split (v : List Value) (h : v = []) : Bytes.bindOptional "bytes.split" "split" ["sep", "maxsplit"] v [] = pure [none, none] := by subst h; kernel_rfl
theorem slot_split : Slot "bytes" "split" "bytes.split" :=
  .of (owner := "bytes") (n := "split") (by rw [typeLookup_type, builtinLookup_eq_fast]; kernel_rfl) (by decide +kernel) (by decide +kernel) (by decide +kernel)
    (by first | exact .inl (by decide +kernel) | exact .inr (by decide +kernel)) (by rw [isSubtype_type]; kernel_rfl)
theorem entry_split : entryFor table "bytes.split" = some Builtin.«bytes.split» := entryFor_of_tree (by kernel_rfl)
theorem args_split (a : Value) : argsOk "bytes.split" ⟨[a], []⟩ := by
  unfold argsOk; rw [signature?_of (id := "bytes.split") (n := ['t', 'i', 'l', 'p', 's']) (o := ['s', 'e', 't', 'y', 'b']) (by kernel_rfl) FB.owner_bytes]; kernel_rfl
theorem type_split : typeOf (.builtin "bytes.split") = pure (.type "method_descriptor") := by kernel_rfl
section
variable {prog : Program} {w : World} {A : Around} {E : Value → Shared → Prop} {s : Shared}
theorem meth_split {b : Array UInt8} {t : Tok} {pl : Sem Bool} {Q : Value × List Value → Shared → Prop} (h : Q (.builtin "bytes.split", [.bytes b t]) s) : wpAny (model prog w) A (getMethod (.bytes b t) "split" pl) Q E s :=
  getMethod_builtin (T := "bytes") rfl FB.plainAttrs_bytes slot_split type_split (fun _ e => nomatch e) h
theorem call_split {ws : List (List UInt8)} {t : Tok} {Q : Value → Shared → Prop} (hw : WordsOk ws) (h2 : 2 ≤ ws.length) (hz : ws.length ≤ 1000) (hz' : ∀ x ∈ ws, x.length ≤ 16777216)
    (h : ∀ vs tk, BytesAre vs ws → Q (.ref s.heap.objs.size) { s with heap := s.heap.push { cls := .type "list", data := .seq vs.toArray }, toks := tk }) :
    wpAny (model prog w) A (call (.builtin "bytes.split") [.bytes (joinW ws).toArray t]) Q E s := by
  refine wpAny_call_entry slot_split (typeIs_bytes _ _ _) entry_split ?_ (args_split _)
  unfold «bytes.split» splitM
  refine wpAny_bind (wpAny_of_eq (bind_split _ rfl) ?_)
  refine wpAny_bind (wpAny_pure ?_)
  refine wpAny_bind (wpAny_of_eq (a := (joinW ws).toArray) rfl ?_)
  refine wpAny_bind (wpAny_rule ?_)
  refine bm_if_false ?_ ?_
  · rw [join_any h2]
    simp
  have e : Bytes.words ((joinW ws).toArray.size + 1) (if (-1 : Int) < 0 then (joinW ws).toArray.size + 1 else (-1 : Int).toNat) (joinW ws).toArray.toList = ws := by
    rw [if_pos (by decide), List.size_toArray]
    exact words_join ws _ _ hw (by have := len_join hw; omega) (by have := len_join hw; omega)
  show wpAny _ _ ((Bytes.words ((joinW ws).toArray.size + 1) (if (-1 : Int) < 0 then (joinW ws).toArray.size + 1 else (-1 : Int).toNat) (joinW ws).toArray.toList).mapM (fun x => Bytes.Kind.bytes.new x.toArray) >>= fun l => newList l >>= fun v => ret v) _ _ _
  rw [e]
  refine wpAny_bind (wp_mapNew ws _ hz' fun vs tk hv => ?_)
  refine wpAny_bind (wpAny_newList ?_ (by rw [hv.length, sizeLine_eq]; omega))
  exact wpAny_pure ⟨_, rfl, h vs tk hv⟩
/-- mo.group('flags') -/
theorem group_flags {X Tp : Addr} {b : Array UInt8} {tb t : Tok} {pos lim li st hd : Int} {B e : Nat} {h₀ : Heap} {a0 a1 a4 : Value} {tg : Tok} {Q : Value → Shared → Prop} (hX : s.heap.get? X = some (matObj (.bytes b tb) (.ref 63) pos lim li Tp)) (hT : s.heap.get? Tp = some (tupObj ([st, hd, (B : Int), (e : Int)].map rawInt)))
    (h63 : s.heap.get? 63 = some (patObj a0 a1 (.ref 60) a4 1 62 1 tg)) (T : KTD.Here h₀ s.heap 60 [(flagsW, KTD.Dat.flat (.int 1))]) (hz : b.size ≤ 16777216)
    (hq : ∀ t' tk, Q (.bytes (b.extract B e) t') { s with toks := tk }) : wpAny (model prog w) A (call (.builtin "re.Match.group") [.ref X, .str flagsW t]) Q E s := by
  have hTy : s.TypeIs (.ref X) "re.Match" := ⟨_, hX, rfl⟩
  refine wpAny_call_entry RE.slot_group hTy RE.entry_group ?_ (RE.args_group _ _)
  unfold «re.Match.group»
  refine wpAny_bind (wpAny_of_eq (noKw rfl) ?_)
  refine wpAny_bind (wp_found hX hT ?_)
  refine wpAny_bind (wp_num_flags rfl h63 T (by simp) ?_)
  unfold Re.reGroupText
  refine wpAny_bind ?_
  refine bm_if_false ?_ ?_
  · show (decide ((B : Int) < 0) || decide ((e : Int) < 0)) = false
    simp only [Bool.or_eq_false_iff, decide_eq_false_iff_not]
    omega
  have ht : ∀ (s : Shared) (GG : Array Nat × Nat → Shared → Prop), GG (b.map (·.toNat), 1) s → wpAny (model prog w) A.in1 (Re.reTextOf (.bytes b tb)) GG E s := fun s GG hg => by
    unfold Re.reTextOf
    refine wpAny_bind (wpAny_of_eq (a := none) rfl ?_)
    refine wpAny_bind (wpAny_of_eq KBy.quiet_eq ?_)
    exact wpAny_pure hg
  refine wpAny_bind (ht _ _ ?_)
  show wpAny _ _ (mkBytes (((b.map (·.toNat)).extract (B : Int).toNat (e : Int).toNat).map (·.toUInt8))) _ _ _
  have eb : ((b.map (·.toNat)).extract (B : Int).toNat (e : Int).toNat).map (·.toUInt8) = b.extract B e := by
    rw [Int.toNat_natCast, Int.toNat_natCast, ← Array.map_extract, Array.map_map]
    have : ((fun x : Nat => x.toUInt8) ∘ fun x : UInt8 => x.toNat) = _root_.id := by funext x; exact UInt8.ofNat_toNat
    rw [this, Array.map_id]
  rw [eb]
  refine wpAny_mkBytes (wpAny_pure ⟨_, rfl, hq _ _⟩) ?_
  rw [sizeLine_eq, Array.size_extract]
  omega
end
end Mine
end
section
open PySem PySem.W PySem.Calls PySem.Spec PyProof.Rows
set_option maxRecDepth 100000
namespace Mine
open Builtin
def flagsB : List UInt8 := [70, 76, 65, 71, 83, 32, 40]
structure FlTx (a : List UInt8) (ws : List (List UInt8)) (c : List UInt8) : Prop where
  ok : WordsOk ws
  two : 2 ≤ ws.length
  few : ws.length ≤ 1000
  short : (a ++ flagsB ++ joinW ws ++ 41 :: c).length ≤ 100000
  line : ∀ x ∈ a ++ flagsB ++ joinW ws ++ 41 :: c, x ≠ 10
  noB : ∀ x ∈ joinW ws, x ≠ 41 ∧ x ≠ 70
  noC : ∀ x ∈ c, x ≠ 70
theorem getD_nat (l : List UInt8) (q : Nat) : (l.toArray.map (·.toNat)).getD q 0 = (l.getD q 0).toNat := by
  by_cases h : q < l.length
  · simp [Array.getD, h, List.getD]
  · simp [Array.getD, h, List.getD]
theorem getD_after (a r : List UInt8) (k : Nat) : (a ++ r).getD (a.length + k) 0 = r.getD k 0 := by
  simp [List.getD, List.getElem?_append_right]
theorem getD_ne {l : List UInt8} {k : Nat} {z : UInt8} (h : ∀ x ∈ l, x ≠ z) (hz : (0 : UInt8) ≠ z) : l.getD k 0 ≠ z := by
  by_cases hk : k < l.length
  · simp only [List.getD, List.getElem?_eq_getElem hk, Option.getD_some]
    exact h _ (List.getElem_mem hk)
  · simp only [List.getD, List.getElem?_eq_none (by omega : l.length ≤ k), Option.getD_none]
    exact hz
theorem ne_nat {x : UInt8} {n : UInt8} (h : x ≠ n) : x.toNat ≠ n.toNat := fun e => h (UInt8.toNat_inj.mp e)
theorem fl_text {a : List UInt8} {ws : List (List UInt8)} {c : List UInt8} (h : FlTx a ws c) {l : List UInt8} (hl : l = a ++ flagsB ++ joinW ws ++ 41 :: c) :
    (∃ sn, Sre.M.runFor (4 * (l.length + 20)) (Sre.forMatch flCode (l.toArray.map (·.toNat)) 1 0 l.length false false) =
      St (l.toArray.map (·.toNat)) l.length 5 a.length (a.length + 7 + (joinW ws).length + 1) #[some (a.length + 7), some (a.length + 7 + (joinW ws).length)] 1 1 [] 0 (some true) sn (some .matched)) ∧
    l.toArray.extract (a.length + 7) (a.length + 7 + (joinW ws).length) = (joinW ws).toArray ∧ l.length ≤ 100000 := by
  have el : l = a ++ (flagsB ++ (joinW ws ++ 41 :: c)) := by rw [hl]; simp only [List.append_assoc]
  have el7 : l = (a ++ flagsB) ++ (joinW ws ++ 41 :: c) := by rw [hl]; simp only [List.append_assoc]
  have h7 : (a ++ flagsB).length = a.length + 7 := by rw [List.length_append]; rfl
  have hlen : l.length = a.length + 7 + (joinW ws).length + 1 + c.length := by
    rw [el7]
    simp only [List.length_append, List.length_cons] at h7 ⊢
    omega
  have at_ : ∀ k, (l.toArray.map (·.toNat)).getD (a.length + k) 0 = ((flagsB ++ (joinW ws ++ 41 :: c)).getD k 0).toNat := fun k => by rw [getD_nat, el, getD_after]
  have at7 : ∀ k, (l.toArray.map (·.toNat)).getD (a.length + 7 + k) 0 = ((joinW ws ++ 41 :: c).getD k 0).toNat := fun k => by rw [getD_nat, el7, ← h7, getD_after]
  have hs : l.length ≤ 100000 := by rw [hl]; exact h.short
  refine ⟨?_, ?_, hs⟩
  · refine fl_match hs (fun q _ => ?_) (at_ 0) (at_ 1) (at_ 2) (at_ 3) (at_ 4) (at_ 5) (at_ 6) (fun q h1 h2 => ?_) (fun q h1 h2 => ?_) ?_ (by omega)
    · rw [getD_nat]
      exact ne_nat (n := 10) (getD_ne (by rw [hl]; exact h.line) (by decide))
    · obtain ⟨k, rfl⟩ : ∃ k, q = a.length + (k + 1) := ⟨q - a.length - 1, by omega⟩
      rw [at_]
      refine ne_nat (n := 70) ?_
      show ((76 :: 65 :: 71 :: 83 :: 32 :: 40 :: (joinW ws ++ 41 :: c)) : List UInt8).getD k 0 ≠ 70
      refine getD_ne (fun x hx => ?_) (by decide)
      simp only [List.mem_cons, List.mem_append] at hx
      rcases hx with rfl | rfl | rfl | rfl | rfl | rfl | hx | rfl | hx
      · decide
      · decide
      · decide
      · decide
      · decide
      · decide
      · exact (h.noB x hx).2
      · decide
      · exact h.noC x hx
    · obtain ⟨k, rfl⟩ : ∃ k, q = a.length + 7 + k := ⟨q - (a.length + 7), by omega⟩
      rw [at7]
      refine ne_nat (n := 41) ?_
      have hk : k < (joinW ws).length := by omega
      have : (joinW ws ++ 41 :: c).getD k 0 = (joinW ws)[k] := by simp [List.getD, List.getElem?_append_left hk, hk]
      rw [this]
      exact (h.noB _ (List.getElem_mem hk)).1
    · rw [at7]
      have := getD_after (joinW ws) (41 :: c) 0
      rw [Nat.add_zero] at this
      rw [this]
      rfl
  · rw [List.extract_toArray, el7]
    have : ((a ++ flagsB ++ (joinW ws ++ 41 :: c)).extract (a.length + 7) (a.length + 7 + (joinW ws).length)) = joinW ws := by
      rw [List.extract_eq_take_drop, ← h7, List.drop_left', Nat.add_sub_cancel_left, List.take_left']
      · rfl
      · rfl
    rw [this]
theorem joinW_mem : ∀ {ws : List (List UInt8)} {x : List UInt8}, x ∈ ws → x.length ≤ (joinW ws).length
  | [], _, h => by cases h
  | [w], x, h => by
    rw [List.mem_singleton.mp h]
    exact Nat.le_refl _
  | w :: v :: ws, x, h => by
    simp only [joinW, List.length_append, List.length_cons]
    rcases List.mem_cons.mp h with rfl | h
    · omega
    · have := joinW_mem h
      omega
end Mine
end
section
open PySem PySem.Sre PySem.W PySem.Calls PySem.Spec PyProof.Rows
set_option maxRecDepth 100000
namespace Mine
theorem cut12 (a b c d : Nat) : Txt.slice ⟨#[a, b, c, d]⟩ (some 1) (some 2) = ⟨#[b]⟩ := by
  have e : Builtin.Str.strSliceIndices (some 1) (some 2) 1 4 = [1] := by decide
  have hl : (⟨#[a, b, c, d]⟩ : Str).length = 4 := rfl
  unfold Txt.slice
  simp only [hl, e]
  rfl
theorem cut02 (a b c d : Nat) : Txt.slice ⟨#[a, b, c, d]⟩ none (some 2) = ⟨#[a, b]⟩ := by
  have e : Builtin.Str.strSliceIndices none (some 2) 1 4 = [0, 1] := by decide
  have hl : (⟨#[a, b, c, d]⟩ : Str).length = 4 := rfl
  unfold Txt.slice
  simp only [hl, e]
  rfl
theorem cut2 (a b c d : Nat) : Txt.slice ⟨#[a, b, c, d]⟩ (some 2) none = ⟨#[c, d]⟩ := by
  have e : Builtin.Str.strSliceIndices (some 2) none 1 4 = [2, 3] := by decide
  have hl : (⟨#[a, b, c, d]⟩ : Str).length = 4 := rfl
  unfold Txt.slice
  simp only [hl, e]
  rfl
theorem item0 (a b c d : Nat) : Txt.item ⟨#[a, b, c, d]⟩ 0 = ⟨#[a]⟩ := by
  rfl
def hsL (c w : Nat) : List Nat := if 1 < w % 4 ∧ 48 + c / 600 = 48 then [48 + c / 60 % 10] else [48 + c / 600, 48 + c / 60 % 10]
def msL (c : Nat) : List Nat := [48 + c % 60 / 10, 48 + c % 10]
def drT (c w : Nat) : List Nat := tzL (w / 4) (hsL c w) (w % 2) (msL c)
theorem is0 (a : Nat) : ((⟨#[a]⟩ : Str) == Str.ofString "0") = decide (a = 48) := by
  have e : Str.ofString "0" = ⟨#[48]⟩ := by decide +kernel
  rw [e]
  by_cases h : a = 48
  · subst h; rfl
  · rw [decide_eq_false h]
    exact beq_false_of_ne (fun e => h (by injection e with e; injection e with e; injection e))
theorem drS_drT (c w : Nat) (hw : w < 12) : drS (celS c) (w : Int) = ⟨(drT c w).toArray⟩ := by
  unfold drS celS celL
  rw [cut12, cut02, cut2, item0, is0]
  have e0 : Str.ofString "" = ⟨#[]⟩ := by decide +kernel
  have e1 : Str.ofString "+" = ⟨#[43]⟩ := by decide +kernel
  have e2 : Str.ofString "-" = ⟨#[45]⟩ := by decide +kernel
  have e3 : Str.ofString ":" = ⟨#[58]⟩ := by decide +kernel
  unfold menuS drT hsL tzL msL
  rw [e0, e1, e2, e3]
  have hws : w = 0 ∨ w = 1 ∨ w = 2 ∨ w = 3 ∨ w = 4 ∨ w = 5 ∨ w = 6 ∨ w = 7 ∨ w = 8 ∨ w = 9 ∨ w = 10 ∨ w = 11 := by omega
  by_cases h : 48 + c / 600 = 48
  · rw [decide_eq_true h]
    rcases hws with rfl | rfl | rfl | rfl | rfl | rfl | rfl | rfl | rfl | rfl | rfl | rfl <;> (simp only [h, and_true]; rfl)
  · rw [decide_eq_false h]
    rcases hws with rfl | rfl | rfl | rfl | rfl | rfl | rfl | rfl | rfl | rfl | rfl | rfl <;> (simp only [h, and_false, Bool.false_eq_true]; rfl)
/-- a text of digits -/
theorem dgt {d : Nat} (h : d < 10) : isDigit (48 + d) = true := by
  simp only [isDigit, Bool.and_eq_true, decide_eq_true_eq]; omega
theorem drT_ok (c w : Nat) (hc : c < 3600) (hw : w < 12) : TzTx (w / 4) (hsL c w) (w % 2) (msL c) := by
  refine ⟨⟨by omega, ?_, by omega⟩, ?_, ?_, rfl⟩
  · unfold hsL; split
    · exact .inl rfl
    · exact .inr rfl
  · unfold hsL
    intro x hx
    split at hx
    · rw [List.mem_singleton.mp hx]; exact dgt (by omega)
    · simp only [List.mem_cons, List.not_mem_nil, or_false] at hx
      rcases hx with rfl | rfl <;> exact dgt (by omega)
  · unfold msL
    intro x hx
    simp only [List.mem_cons, List.not_mem_nil, or_false] at hx
    rcases hx with rfl | rfl <;> exact dgt (by omega)
theorem numL2 (a b : Nat) : numL [48 + a, 48 + b] = 10 * a + b := by
  simp only [numL, List.foldl_cons, List.foldl_nil]; omega
theorem numL1 (a : Nat) : numL [48 + a] = a := by
  simp only [numL, List.foldl_cons, List.foldl_nil]; omega
theorem drT_val (c w : Nat) (hc : c < 3600) : tzV (w / 4) (hsL c w) (msL c) = if w / 4 = 2 then -(60 * (c : Int)) else 60 * (c : Int) := by
  have e1 : numL (hsL c w) = ((c / 60 : Nat) : Int) := by
    unfold hsL
    split
    · rw [numL1]; omega
    · rw [numL2]; omega
  have e2 : numL (msL c) = ((c % 60 : Nat) : Int) := by
    unfold msL; rw [numL2]; omega
  unfold tzV
  rw [e1, e2]
  have : 3600 * ((c / 60 : Nat) : Int) + 60 * ((c % 60 : Nat) : Int) = 60 * (c : Int) := by omega
  rw [this]
/-- hours and minutes exchanged -/
def exT (c : Nat) : List Nat := tzL 0 (msL c) 0 [48 + c / 600, 48 + c / 60 % 10]
theorem exT_ok (c : Nat) (hc : c < 3600) : TzTx 0 (msL c) 0 [48 + c / 600, 48 + c / 60 % 10] := by
  refine ⟨⟨by omega, .inr rfl, by omega⟩, ?_, ?_, rfl⟩
  · unfold msL
    intro x hx
    simp only [List.mem_cons, List.not_mem_nil, or_false] at hx
    rcases hx with rfl | rfl <;> exact dgt (by omega)
  · intro x hx
    simp only [List.mem_cons, List.not_mem_nil, or_false] at hx
    rcases hx with rfl | rfl <;> exact dgt (by omega)
theorem exT_val (c : Nat) : tzV 0 (msL c) [48 + c / 600, 48 + c / 60 % 10] = 3600 * ((c % 60 : Nat) : Int) + 60 * ((10 * (c / 600) + c / 60 % 10 : Nat) : Int) := by
  unfold tzV msL
  rw [numL2, numL2, if_neg (by decide)]
  omega
end Mine
end
section
open PySem PySem.W PySem.Spec PySem.Calls PyProof.Rows
namespace Mine
/-- the place that changes with q when words of W octets are turned -/
def mir (W q : Nat) : Nat := q - q % W + (W - 1 - q % W)
def bswap (W : Nat) (d : List UInt8) : List UInt8 := (List.range d.length).map fun q => d.getD (mir W q) 0
/-- the state: the words below i are turned, of the word at i the last j octets -/
def BS (d : List UInt8) (W i j : Nat) (c : Array UInt8) : Prop :=
  c.size = d.length ∧ ∀ q, q < d.length → c.getD q 0 = if q < i ∨ (i + W ≤ q + j ∧ q < i + W) then d.getD (mir W q) 0 else 0
theorem bs_start {d : List UInt8} {W : Nat} : BS d W 0 0 (Array.replicate d.length 0) := by
  refine ⟨Array.size_replicate, fun q hq => ?_⟩
  rw [if_neg (by omega)]
  simp [Array.getD, hq]
theorem bs_step {d : List UInt8} {W i j : Nat} {c : Array UInt8} (h : BS d W i j c) (hi : i % W = 0) (hj : j < W) (hl : i + W ≤ d.length) {k n : Int} (hk : k = (i + W - 1 - j : Nat)) (hn : n = ((d.getD (i + j) 0).toNat : Int)) :
    BS d W i (j + 1) (c.setIfInBounds k.toNat n.toNat.toUInt8) := by
  subst hk hn
  rw [Int.toNat_natCast, Int.toNat_natCast, show (d.getD (i + j) 0).toNat.toUInt8 = d.getD (i + j) 0 from UInt8.ofNat_toNat]
  obtain ⟨h1, h2⟩ := h
  refine ⟨by rw [Array.size_setIfInBounds]; exact h1, fun q hq => ?_⟩
  by_cases e : i + W - 1 - j = q
  · subst e
    rw [if_pos (by omega)]
    have hm : mir W (i + W - 1 - j) = i + j := by
      have e1 : i + W - 1 - j = (W - 1 - j) + i := by omega
      have e2 : (i + W - 1 - j) % W = W - 1 - j := by
        rw [e1, Nat.add_mod, hi, Nat.add_zero, Nat.mod_mod, Nat.mod_eq_of_lt (by omega)]
      unfold mir
      rw [e2]
      omega
    rw [hm]
    simp [Array.getD, h1, hq]
  · have : (c.setIfInBounds (i + W - 1 - j) (d.getD (i + j) 0)).getD q 0 = c.getD q 0 := by
      simp only [Array.getD, Array.size_setIfInBounds]
      split
      · exact Array.getElem_setIfInBounds_ne (by assumption) e
      · rfl
    rw [this, h2 q hq]
    by_cases c1 : q < i ∨ (i + W ≤ q + j ∧ q < i + W)
    · rw [if_pos c1, if_pos (by omega)]
    · rw [if_neg c1, if_neg (by omega)]
theorem bs_next {d : List UInt8} {W i : Nat} {c : Array UInt8} (h : BS d W i W c) : BS d W (i + W) 0 c := by
  obtain ⟨h1, h2⟩ := h
  refine ⟨h1, fun q hq => ?_⟩
  rw [h2 q hq]
  by_cases c1 : q < i ∨ (i + W ≤ q + W ∧ q < i + W)
  · rw [if_pos c1, if_pos (by omega)]
  · rw [if_neg c1, if_neg (by omega)]
theorem bs_done {d : List UInt8} {W i : Nat} {c : Array UInt8} (h : BS d W i 0 c) (hi : d.length ≤ i) : c = (bswap W d).toArray := by
  obtain ⟨h1, h2⟩ := h
  refine Array.ext (by rw [h1]; simp [bswap]) fun q hq hq' => ?_
  have z := h2 q (by omega)
  rw [if_pos (by omega)] at z
  have e : c.getD q 0 = c[q] := by simp [Array.getD, hq]
  rw [← e, z]
  simp [bswap]
theorem bs_size {d : List UInt8} {W i j : Nat} {c : Array UInt8} (h : BS d W i j c) : c.size = d.length := h.1
section
variable {prog : Program} {w : World} {A : Around} {E : Value → Shared → Prop} {s : Shared} {h₀ : Heap} {L S : Addr} {m : Str → Option Value} {news news' : List (Addr × Obj)} {b : Array UInt8} {k n : Int} {t u : Tok}
theorem news_move {h h' : Heap} {L D : Addr} {o o' : Obj} {news news' : List (Addr × Obj)} (N : News h₀ L h news) (U : Upd D o o' news news') (ho : h'.get? D = some o') (hk : ∀ a x, a ≠ D → h.get? a = some x → h'.get? a = some x) : News h₀ L h' news' := by
  obtain ⟨pre, post, rfl, rfl, a, b⟩ := U.split
  intro p hp
  rcases List.mem_append.mp hp with hp | hp
  · have z := N p (List.mem_append.mpr (.inl hp))
    exact ⟨hk _ _ (a p hp) z.1, z.2⟩
  · rcases List.mem_cons.mp hp with rfl | hp
    · exact ⟨ho, (N (D, o) (List.mem_append.mpr (.inr (.head _)))).2⟩
    · have z := N p (List.mem_append.mpr (.inr (.tail _ hp)))
      exact ⟨hk _ _ (b p hp) z.1, z.2⟩
theorem fr_move {h h' : Heap} {L D : Addr} {o o' : Obj} {news news' : List (Addr × Obj)} (F : Fr h₀ L h m) (N : News h₀ L h news) (U : Upd D o o' news news') (hk : ∀ a x, a ≠ D → h.get? a = some x → h'.get? a = some x) : Fr h₀ L h' m := by
  obtain ⟨pre, post, rfl, rfl, a, b⟩ := U.split
  have z := (N (D, o) (List.mem_append.mpr (.inr (.head _)))).2
  obtain ⟨oL, a1, a2, hoL, a3⟩ := F.ns
  refine ⟨⟨oL, a1, a2, hk L _ (Ne.symm z.1) hoL, a3⟩, fun b x e => hk b x ?_ (F.keep b x e), F.above⟩
  rintro rfl
  have := z.2
  rw [this] at e
  cases e
theorem ba_set {Q : Unit → Shared → Prop} (F : Fr h₀ L s.heap m) (N : News h₀ L s.heap news) (U : Upd S (BA b) (BA (b.setIfInBounds k.toNat n.toNat.toUInt8)) news news') (h0 : 0 ≤ k) (hk : k < b.size) (hz : b.size ≤ 16777216) (hn0 : 0 ≤ n) (hn : n < 256)
    (h : ∀ h', Fr h₀ L h' m → News h₀ L h' news' → Q () { s with heap := h' }) : wpAny (model prog w) A (setItem (.ref S) (.int k t) (.int n u)) Q E s := by
  have hS : s.heap.get? S = some (BA b) := by
    obtain ⟨pre, post, rfl, rfl, a, b⟩ := U.split
    exact (N (S, _) (List.mem_append.mpr (.inr (.head _)))).1
  exact ba_setItem hS h0 hk hz hn0 hn fun h' ho hk' => h h' (fr_move F N U hk') (news_move N U ho hk')
theorem ba_bytes {Q : Value → Shared → Prop} (N : News h₀ L s.heap news) (hm : (S, BA b) ∈ news) (hz : b.size ≤ 16777216) (hq : Q (.bytes b s.toks) { s with toks := s.toks + 1 }) : wpAny (model prog w) A (call (.type "bytes") [.ref S]) Q E s :=
  call_bytes_ba (N _ hm).1 hz hq
end
theorem byte_lt (d : List UInt8) (k : Nat) : (((d.getD k 0).toNat : Nat) : Int) < 256 := by
  have := (d.getD k 0).toNat_lt
  omega
end Mine
end
section
open PySem PySem.W PySem.Spec PySem.Calls PyProof.Rows
namespace Mine
section
variable {prog : Program} {w : World} {A : Around} {E : Value → Shared → Prop} {s : Shared} {env : Env} {h₀ : Heap} {x y : Str} {body : List Stmt} {Q : Flow → Shared → Prop}
/-- what the frame is told to hold in a loop with the index x and an inner one y -/
abbrev two (x y : Str) (ui uj : Option Value) (m₀ : Str → Option Value) : Str → Option Value := fun z => if z = x then ui else if z = y then uj else m₀ z
abbrev StepEnd (h₀ : Heap) (L : Addr) (s₁ : Shared) (I : Addr) (it : Obj) (x y : Str) (m₀ : Str → Option Value) (S : Addr) (J : Array UInt8 → Prop) (Q : Flow → Shared → Prop) : Flow → Shared → Prop :=
  UnrPost h₀ L s₁ I it (fun m' news' => ∃ ui' uj' c', m' = two x y ui' uj' m₀ ∧ news' = [(S, BA c')] ∧ J c') Q
theorem unr_mono {h₀ : Heap} {L : Addr} {s₁ : Shared} {I : Addr} {it : Obj} {R R' : (Str → Option Value) → List (Addr × Obj) → Prop} {f : Flow} {s₂ : Shared} (hR : ∀ m n, R m n → R' m n) (h : UnrPost h₀ L s₁ I it R Q f s₂) : UnrPost h₀ L s₁ I it R' Q f s₂ := by
  have key : UnrEnd h₀ L s₁ I it R s₂ → UnrEnd h₀ L s₁ I it R' s₂ := by
    rintro ⟨h', tk, m', news', e, F, N, off, r⟩
    exact ⟨h', tk, m', news', e, F, N, off, hR _ _ r⟩
  cases f with
  | ret v => exact h
  | brk => exact h
  | next => exact key h
  | cont => exact key h
theorem loop_step {r S : Addr} {b₀ c : Int} {t₀ u₀ v₀ : Tok} {n : Nat} {m₀ : Str → Option Value} {c₀ : Array UInt8} (J : Nat → Array UInt8 → Prop)
    (hh : A.handled = none) (hr : IsRange s.heap r 0 b₀ c t₀ u₀ v₀) (hsmall : Builtin.Range.small 0 b₀ c = true) (hn : Builtin.Range.rangeSize 0 b₀ c = (n : Int)) (F : Fr h₀ env.locals s.heap m₀) (N : News h₀ env.locals s.heap [(S, BA c₀)]) (hJ : J 0 c₀)
    (turn : ∀ (i : Nat) (cA : Array UInt8) (I : Addr) (it : Obj) (v : Int) (uj : Option Value) t h tk, i < n → S < I → v = (i : Int) * c → J i cA →
      Fr h₀ env.locals h (fun z => if z = x then some (.int v t) else if z = y then uj else m₀ z) → News h₀ env.locals h [(I, it), (S, BA cA)] →
      wpAny (model prog w) A (execs body env) (StepEnd h₀ env.locals { s with heap := h, toks := tk } I it x y m₀ S (J (i + 1)) Q) E { s with heap := h, toks := tk })
    (done : ∀ (ui uj : Option Value) (cA : Array UInt8) h tk, J n cA → Fr h₀ env.locals h (fun z => if z = x then ui else if z = y then uj else m₀ z) → News h₀ env.locals h [(S, BA cA)] → Q .next { s with heap := h, toks := tk }) :
    wpAny (model prog w) A (pyIter (.ref r)) (fun it s₂ => LoopAtV prog w A h₀ env x body Q E it s₂) E s := by
  refine krs_iter hh hr hsmall hn F N fun I hI => ?_
  have hSI : S < I := hI _ (List.mem_singleton.mpr rfl)
  have main : ∀ (k i : Nat) (ui uj : Option Value) (cA : Array UInt8), i + k = n → J i cA → KrsRest prog w A E h₀ env x body Q s I 0 c n k i (two x y ui uj m₀) [(S, BA cA)] := by
    intro k
    induction k with
    | zero =>
      intro i ui uj cA e hJ
      have e : i = n := by omega
      subst e
      exact KrsRest.zero fun h tk F' N' => done ui uj cA h tk hJ F' N'
    | succ k ih =>
      intro i ui uj cA e hJ
      refine KrsRest.succ rfl fun t h tk F' N' => ?_
      have F'' : Fr h₀ env.locals h (fun z => if z = x then some (.int (0 + (i : Int) * c) t) else if z = y then uj else m₀ z) := by
        have e : (fun z => if z = x then some (Value.int (0 + (i : Int) * c) t) else two x y ui uj m₀ z) = (fun z => if z = x then some (.int (0 + (i : Int) * c) t) else if z = y then uj else m₀ z) := by
          funext z
          by_cases hz : z = x
          · rw [if_pos hz, if_pos hz]
          · rw [if_neg hz, if_neg hz]
            show (if z = x then ui else _) = _
            rw [if_neg hz]
        exact e ▸ F'
      refine wpAny_mono (turn i cA I _ _ uj t h tk (by omega) hSI (Int.zero_add _) hJ F'' N') (fun f s₂ hf => unr_mono ?_ hf) fun _ _ e => e
      rintro m' news' ⟨ui', uj', c', rfl, rfl, hJ'⟩
      exact ih (i + 1) ui' uj' c' (by omega) hJ'
  have em : m₀ = two x y (m₀ x) (m₀ y) m₀ := by
    funext z
    by_cases h1 : z = x
    · subst h1; exact (if_pos rfl).symm
    · by_cases h2 : z = y
      · subst h2
        show _ = (if z = x then m₀ x else if z = z then m₀ z else m₀ z)
        rw [if_neg h1, if_pos rfl]
      · show _ = (if z = x then m₀ x else if z = y then m₀ y else m₀ z)
        rw [if_neg h1, if_neg h2]
  have z := main n 0 (m₀ x) (m₀ y) c₀ (Nat.zero_add n) hJ
  rw [← em] at z
  exact z
theorem step_end {L S I : Addr} {it : Obj} {h : Heap} {tk : Nat} {m₀ : Str → Option Value} {vi uj uj' : Option Value} {J : Array UInt8 → Prop} {cA : Array UInt8} {s₁ : Shared}
    (F : Fr h₀ L h (fun z => if z = y then uj' else if z = x then vi else if z = y then uj else m₀ z)) (N : News h₀ L h [(I, it), (S, BA cA)]) (hxy : x ≠ y) (hSI : S ≠ I) (hJ : J cA) :
    StepEnd h₀ L s₁ I it x y m₀ S J Q .next { s₁ with heap := h, toks := tk } := by
  have e : (fun z => if z = y then uj' else if z = x then vi else if z = y then uj else m₀ z) = two x y vi uj' m₀ := by
    funext z
    show _ = (if z = x then vi else if z = y then uj' else m₀ z)
    by_cases h1 : z = y
    · subst h1
      rw [if_pos rfl, if_neg (Ne.symm hxy), if_pos rfl]
    · by_cases h2 : z = x
      · subst h2
        rw [if_neg h1, if_pos rfl, if_pos rfl]
      · rw [if_neg h1, if_neg h2, if_neg h1, if_neg h2, if_neg h1]
  rw [e] at F
  exact UnrEnd.intro F N [(S, BA cA)] (fun p hp => hp) (fun p hp => by rw [List.mem_singleton.mp hp]; exact hSI) ⟨vi, uj', cA, rfl, rfl, hJ⟩
/-- the inner loop, over range(W) -/
theorem loop_in {r S I : Addr} {it : Obj} {b₀ : Int} {t₀ u₀ v₀ : Tok} {n : Nat} {m₀ : Str → Option Value} {c₀ : Array UInt8} (J : Nat → Array UInt8 → Prop)
    (hh : A.handled = none) (hr : IsRange s.heap r 0 b₀ 1 t₀ u₀ v₀) (hsmall : Builtin.Range.small 0 b₀ 1 = true) (hn : Builtin.Range.rangeSize 0 b₀ 1 = (n : Int)) (F : Fr h₀ env.locals s.heap m₀) (N : News h₀ env.locals s.heap [(I, it), (S, BA c₀)]) (hJ : J 0 c₀)
    (turn : ∀ (cA : Array UInt8) (pre : List Int) (k : Int) t (u : Str → Option Value) h tk own, k = 0 + (pre.length : Int) → pre.length < n → OwnOff own [I, S] → J pre.length cA →
      Fr h₀ env.locals h (fun z => if z = y then some (.int k t) else m₀ z) → News h₀ env.locals h ([(I, it), (S, BA cA)] ++ own) →
      wpAny (model prog w) A (execs body env) (InvPostN h₀ env.locals (KstS (fun c : Array UInt8 => [(I, it), (S, BA c)]) (fun _ => []) (fun _ => True) y [] m₀ (fun pre c => J pre.length c) (pre ++ [k])) own [I, S] { s with heap := h, toks := tk } Q) E { s with heap := h, toks := tk })
    (done : ∀ (cA : Array UInt8) (uj : Option Value) h tk, J n cA → Fr h₀ env.locals h (fun z => if z = y then uj else m₀ z) → News h₀ env.locals h [(I, it), (S, BA cA)] → Q .next { s with heap := h, toks := tk }) :
    wpAny (model prog w) A (pyIter (.ref r)) (fun it s₂ => LoopAtV prog w A h₀ env y body Q E it s₂) E s :=
  kst_range (σ := Array UInt8) (fun c => [(I, it), (S, BA c)]) (fun _ => []) (fun _ => True) [] (fun pre c => J pre.length c) c₀
    hh hr hsmall hn F N trivial (fun p hp => nomatch hp) hJ
    (fun c pre k t u h tk own e hl ho _ hp' F' N' => turn c pre k t u h tk own e hl ho hp' F' N')
    (fun c u h tk _ hp' F' N' => done c (u y) h tk (by rw [rangeKs_length] at hp'; exact hp') (by
      have e : (fun z => if z = y then u z else kstB (fun z => if ([] : List Str).contains z then u z else m₀ z) [] z) = (fun z => if z = y then u y else m₀ z) := by
        funext z
        by_cases h1 : z = y
        · subst h1; rfl
        · rw [if_neg h1, if_neg h1]; rfl
      exact e ▸ F') N')
end
theorem small_of {b c z : Int} (hb : -1000 ≤ b) (hb' : b ≤ 1000) (hc : -1000 ≤ c) (hc' : c ≤ 1000) (hz : Builtin.Range.rangeSize 0 b c = z) (h0 : 0 ≤ z) (h1 : z ≤ 1001) : Builtin.Range.small 0 b c = true := by
  unfold Builtin.Range.small
  rw [hz]
  simp only [Builtin.Range.rangeFitsLong, Bool.and_eq_true, Bool.or_eq_true, decide_eq_true_eq, beq_iff_eq]
  split <;> (simp only [Bool.and_eq_true, decide_eq_true_eq]; omega)
theorem size_step4 {n : Nat} (h : n % 4 = 0) : Builtin.Range.rangeSize 0 (n : Int) 4 = ((n / 4 : Nat) : Int) := by
  unfold Builtin.Range.rangeSize
  simp
  omega
theorem size_step2 {n : Nat} (h : n % 4 = 0) : Builtin.Range.rangeSize 0 (n : Int) 2 = ((n / 2 : Nat) : Int) := by
  unfold Builtin.Range.rangeSize
  simp
  omega
theorem small_step4 {n : Nat} (h : n % 4 = 0) (h' : n ≤ 1000) : Builtin.Range.small 0 (n : Int) 4 = true := small_of (by omega) (by omega) (by omega) (by omega) (size_step4 h) (by omega) (by omega)
theorem small_step2 {n : Nat} (h : n % 4 = 0) (h' : n ≤ 1000) : Builtin.Range.small 0 (n : Int) 2 = true := small_of (by omega) (by omega) (by omega) (by omega) (size_step2 h) (by omega) (by omega)
end Mine
end
section
open PySem PySem.Sre PySem.W PySem.Calls PySem.Spec PyProof.Rows
set_option maxRecDepth 100000
namespace Mine
def wB (l : List Nat) : List UInt8 := l.map fun c => c.toUInt8
def cN (p z : Int) (i : Nat) : Nat := (ckI p z i).toNat
def wN (a : Int) (i : Nat) : Nat := (wayI a i).toNat
theorem wN_lt (a : Int) (i : Nat) : wN a i < 12 := by
  have := way_rng a i
  unfold wN; omega
theorem wN_eq (a : Int) (i : Nat) : ((wN a i : Nat) : Int) = wayI a i := by
  have := way_rng a i
  unfold wN; omega
theorem drI_eq (p z a : Int) (i : Nat) : drI p z a i = ⟨(drT (cN p z i) (wN a i)).toArray⟩ := by
  unfold drI
  rw [← wN_eq, drS_drT _ _ (wN_lt a i)]
  rfl
/-- the signs of the texts -/
def okS (c : Nat) : Prop := 43 ≤ c ∧ c ≤ 58
theorem okS_dig {c : Nat} (h : isDigit c = true) : okS c := by
  simp only [isDigit, Bool.and_eq_true, decide_eq_true_eq] at h
  unfold okS; omega
theorem tz_chars {sg co : Nat} {hs ms : List Nat} (h : TzTx sg hs co ms) : ∀ c ∈ tzL sg hs co ms, okS c := by
  intro c hc
  unfold tzL at hc
  simp only [List.mem_append] at hc
  rcases hc with ((hc | hc) | hc) | hc
  · split at hc
    · rw [List.mem_singleton.mp hc]; unfold okS; omega
    · split at hc
      · rw [List.mem_singleton.mp hc]; unfold okS; omega
      · cases hc
  · exact okS_dig (h.dh c hc)
  · split at hc
    · rw [List.mem_singleton.mp hc]; unfold okS; omega
    · cases hc
  · exact okS_dig (h.dm c hc)
theorem tz_leng {sg co : Nat} {hs ms : List Nat} (h : TzTx sg hs co ms) : 0 < (tzL sg hs co ms).length ∧ (tzL sg hs co ms).length ≤ 6 := by
  have h1 := h.lm
  have h2 := h.ok.h
  unfold tzL
  simp only [List.length_append]
  have a1 : (if sg = 1 then [43] else if sg = 2 then [45] else ([] : List Nat)).length ≤ 1 := by
    split
    · exact Nat.le_refl _
    · split
      · exact Nat.le_refl _
      · exact Nat.zero_le _
  have a2 : (if co = 1 then [58] else ([] : List Nat)).length ≤ 1 := by
    split
    · exact Nat.le_refl _
    · exact Nat.zero_le _
  omega
/-- words of such signs -/
structure WOk (ws : List (List Nat)) : Prop where
  sg : ∀ w ∈ ws, ∀ c ∈ w, okS c
  le : ∀ w ∈ ws, 0 < w.length ∧ w.length ≤ 6
theorem joinW_in : ∀ {ws : List (List UInt8)} {x : UInt8}, x ∈ joinW ws → x = 32 ∨ ∃ w ∈ ws, x ∈ w
  | [], _, h => by cases h
  | [w], x, h => .inr ⟨w, List.mem_singleton.mpr rfl, h⟩
  | w :: v :: ws, x, h => by
    simp only [joinW, List.mem_append, List.mem_cons] at h
    rcases h with h | h | h
    · exact .inr ⟨w, by simp, h⟩
    · exact .inl h
    · rcases joinW_in h with e | ⟨w', h1, h2⟩
      · exact .inl e
      · exact .inr ⟨w', List.mem_cons_of_mem _ h1, h2⟩
theorem joinW_len : ∀ {ws : List (List UInt8)}, (∀ w ∈ ws, w.length ≤ 6) → (joinW ws).length ≤ 7 * ws.length
  | [], _ => Nat.le_refl _
  | [w], h => by
    have := h w (by simp)
    simp only [joinW, List.length_cons, List.length_nil]; omega
  | w :: v :: ws, h => by
    have h1 := h w (by simp)
    have h2 := joinW_len (ws := v :: ws) fun x hx => h x (List.mem_cons_of_mem _ hx)
    simp only [joinW, List.length_append, List.length_cons] at h2 ⊢
    omega
theorem okBy {c : Nat} (h : okS c) : 43 ≤ c.toUInt8 ∧ c.toUInt8 ≤ 58 := by
  obtain ⟨h1, h2⟩ := h
  have key : ∀ c < 59, 43 ≤ c → 43 ≤ Nat.toUInt8 c ∧ Nat.toUInt8 c ≤ 58 := by decide
  exact key c (by omega) h1
theorem wB_mem {l : List Nat} (h : ∀ c ∈ l, okS c) : ∀ x ∈ wB l, 43 ≤ x ∧ x ≤ 58 := by
  intro x hx
  obtain ⟨c, hc, rfl⟩ := List.mem_map.mp hx
  exact okBy (h c hc)
theorem range_ne {x y : UInt8} (h : 43 ≤ x ∧ x ≤ 58) (hy : y < 43 ∨ 58 < y) : x ≠ y := by
  rintro rfl
  rcases hy with hy | hy
  · exact absurd h.1 (by rw [UInt8.le_iff_toNat_le]; rw [UInt8.lt_iff_toNat_lt] at hy; omega)
  · exact absurd h.2 (by rw [UInt8.le_iff_toNat_le]; rw [UInt8.lt_iff_toNat_lt] at hy; omega)
theorem not_space {x : UInt8} (h : 43 ≤ x ∧ x ≤ 58) : Builtin.Bytes.isSpace x = false := by
  have h1 : x ≠ 32 := range_ne h (.inl (by decide))
  unfold Builtin.Bytes.isSpace
  have h2 : ¬ x ≤ 13 := by
    have := h.1
    rw [UInt8.le_iff_toNat_le] at this ⊢
    have e : (43 : UInt8).toNat = 43 := rfl
    have e' : (13 : UInt8).toNat = 13 := rfl
    omega
  simp [h1, h2]
theorem wB_len (l : List Nat) : (wB l).length = l.length := by simp [wB]
theorem words_wB {ws : List (List Nat)} (h : WOk ws) : WordsOk (ws.map wB) := by
  intro w hw
  obtain ⟨l, hl, rfl⟩ := List.mem_map.mp hw
  refine ⟨fun e => ?_, fun c hc => not_space (wB_mem (h.sg l hl) c hc)⟩
  have := (h.le l hl).1
  rw [← wB_len, e] at this
  exact absurd this (by decide)
theorem join_chars {ws : List (List Nat)} (h : WOk ws) : ∀ x ∈ joinW (ws.map wB), x = 32 ∨ (43 ≤ x ∧ x ≤ 58) := by
  intro x hx
  rcases joinW_in hx with e | ⟨w, hw, hx⟩
  · exact .inl e
  · obtain ⟨l, hl, rfl⟩ := List.mem_map.mp hw
    exact .inr (wB_mem (h.sg l hl) x hx)
theorem join_long {ws : List (List Nat)} (h : WOk ws) : (joinW (ws.map wB)).length ≤ 7 * ws.length := by
  have := joinW_len (ws := ws.map wB) fun w hw => by
    obtain ⟨l, hl, rfl⟩ := List.mem_map.mp hw
    rw [wB_len]
    exact (h.le l hl).2
  rwa [List.length_map] at this
/-- an answer's part -/
theorem flTx {a c : List UInt8} {ws : List (List Nat)} (h : WOk ws) (h2 : 2 ≤ ws.length) (h1 : ws.length ≤ 1000) (ha : ∀ x ∈ a, x ≠ 10) (hal : a.length ≤ 10000) (hc : ∀ x ∈ c, x ≠ 10 ∧ x ≠ 70) (hcl : c.length ≤ 10000) : FlTx a (ws.map wB) c := by
  have hj := join_chars h
  have hl := join_long h
  refine ⟨words_wB h, by rwa [List.length_map], by rwa [List.length_map], ?_, ?_, ?_, fun x hx => (hc x hx).2⟩
  · simp only [List.length_append, List.length_cons]
    have : flagsB.length = 7 := rfl
    omega
  · intro x hx
    simp only [List.mem_append, List.mem_cons] at hx
    rcases hx with ((hx | hx) | hx) | rfl | hx
    · exact ha x hx
    · revert x; decide
    · rcases hj x hx with rfl | hr
      · decide
      · exact range_ne hr (.inl (by decide))
    · decide
    · exact (hc x hx).1
  · intro x hx
    rcases hj x hx with rfl | hr
    · decide
    · exact ⟨range_ne hr (.inl (by decide)), range_ne hr (.inr (by decide))⟩
/-- the join of texts, in bytes -/
theorem join_bytes : ∀ (Ls : List (List Nat)), (((Str.join ⟨#[32]⟩ (Ls.map fun l => (⟨l.toArray⟩ : Str))).cps.map fun c => c.toUInt8)) = (joinW (Ls.map wB)).toArray
  | [] => by simp [Str.join, Str.empty, joinW]
  | [l] => by
    show Array.map (fun c : Nat => c.toUInt8) l.toArray = (wB l).toArray
    simp [wB]
  | l :: m :: Ls => by
    have ih := join_bytes (m :: Ls)
    show Array.map (fun c : Nat => c.toUInt8) ((l.toArray ++ #[32]) ++ (Str.join ⟨#[32]⟩ ((m :: Ls).map fun l : List Nat => (⟨l.toArray⟩ : Str))).cps) = _
    rw [Array.map_append, ih]
    apply Array.ext'
    simp [joinW, wB]
theorem join_ascii : ∀ (Ls : List (List Nat)), (∀ l ∈ Ls, ∀ c ∈ l, c < 128) → ∀ c ∈ (Str.join ⟨#[32]⟩ (Ls.map fun l => (⟨l.toArray⟩ : Str))).cps, c < 128
  | [], _ => fun c hc => by simp [Str.join, Str.empty] at hc
  | [l], h => fun c hc => h l (by simp) c (by simpa [Str.join] using hc)
  | l :: m :: Ls, h => fun c hc => by
    have ih := join_ascii (m :: Ls) fun x hx => h x (List.mem_cons_of_mem _ hx)
    have hc' : c ∈ (l.toArray ++ #[32]) ++ (Str.join ⟨#[32]⟩ ((m :: Ls).map fun l => (⟨l.toArray⟩ : Str))).cps := hc
    rw [Array.mem_append, Array.mem_append] at hc'
    rcases hc' with (hc | hc) | hc
    · exact h l (by simp) c (by simpa using hc)
    · have : c = 32 := by simpa using hc
      omega
    · exact ih c hc
end Mine
end
section
open PySem PySem.Sre PySem.W PySem.Calls PySem.Spec PyProof.Rows
set_option maxRecDepth 100000
namespace Mine
def drW (p z a : Int) (n : Nat) : List (List Nat) := (List.range n).map fun i => drT (cN p z i) (wN a i)
def exW (p z : Int) (n : Nat) : List (List Nat) := (List.range n).map fun i => exT (cN p z i)
theorem drL_W (p z a : Int) (n : Nat) : drL p z a n = (drW p z a n).map fun l => (⟨l.toArray⟩ : Str) := by
  unfold drL drW
  rw [List.map_map]
  refine List.map_congr_left fun i _ => ?_
  exact drI_eq p z a i
theorem cN_lt {p z : Int} (hp : 0 < p) (h0 : 0 ≤ z) (h1 : z < p) (i : Nat) : cN p z i < 3600 := by
  have := ck_rng hp h0 h1 i
  unfold cN; omega
theorem drW_ok {p z : Int} (a : Int) (hp : 0 < p) (h0 : 0 ≤ z) (h1 : z < p) (n : Nat) : WOk (drW p z a n) := by
  refine ⟨fun w hw => ?_, fun w hw => ?_⟩
  · obtain ⟨i, _, rfl⟩ := List.mem_map.mp hw
    exact tz_chars (drT_ok _ _ (cN_lt hp h0 h1 i) (wN_lt a i))
  · obtain ⟨i, _, rfl⟩ := List.mem_map.mp hw
    exact tz_leng (drT_ok _ _ (cN_lt hp h0 h1 i) (wN_lt a i))
theorem exW_ok {p z : Int} (hp : 0 < p) (h0 : 0 ≤ z) (h1 : z < p) (n : Nat) : WOk (exW p z n) := by
  refine ⟨fun w hw => ?_, fun w hw => ?_⟩
  · obtain ⟨i, _, rfl⟩ := List.mem_map.mp hw
    exact tz_chars (exT_ok _ (cN_lt hp h0 h1 i))
  · obtain ⟨i, _, rfl⟩ := List.mem_map.mp hw
    exact tz_leng (exT_ok _ (cN_lt hp h0 h1 i))
theorem drW_len (p z a : Int) (n : Nat) : (drW p z a n).length = n := by simp [drW]
theorem exW_len (p z : Int) (n : Nat) : (exW p z n).length = n := by simp [exW]
/-- the answer without the second row -/
def plainL (ws : List (List Nat)) : List UInt8 := [42, 32] ++ flagsB ++ joinW (ws.map wB) ++ 41 :: []
theorem of_flags : Str.ofString "* FLAGS (" = ⟨#[42, 32, 70, 76, 65, 71, 83, 32, 40]⟩ := by decide +kernel
theorem of_space : Str.ofString " " = ⟨#[32]⟩ := by decide +kernel
theorem of_close : Str.ofString ")" = ⟨#[41]⟩ := by decide +kernel
theorem of_none : Str.ofString "" = ⟨#[]⟩ := by decide +kernel
theorem join_eq (s : Str) (l : List Str) : Txt.join s l = Str.join s l := StrLaws.glued_eq_join s l
/-- the text of the plain answer -/
def plainS (p z a : Int) (n : Nat) : Str := Str.ofString "* FLAGS (" ++ Txt.join (Str.ofString " ") (drL p z a n) ++ Str.ofString ")"
theorem plain_cps (p z a : Int) (n : Nat) : (plainS p z a n).cps = #[42, 32, 70, 76, 65, 71, 83, 32, 40] ++ (Str.join ⟨#[32]⟩ ((drW p z a n).map fun l => (⟨l.toArray⟩ : Str))).cps ++ #[41] := by
  unfold plainS
  rw [of_flags, of_space, of_close, join_eq, drL_W]
  rfl
theorem plain_bytes (p z a : Int) (n : Nat) : ((plainS p z a n).cps.map fun c => c.toUInt8) = (plainL (drW p z a n)).toArray := by
  rw [plain_cps, Array.map_append, Array.map_append, join_bytes]
  apply Array.ext'
  simp [plainL, flagsB]
theorem plain_ascii {p z : Int} (a : Int) (hp : 0 < p) (h0 : 0 ≤ z) (h1 : z < p) (n : Nat) : ∀ c ∈ (plainS p z a n).cps, c < 128 := by
  intro c hc
  rw [plain_cps, Array.mem_append, Array.mem_append] at hc
  rcases hc with (hc | hc) | hc
  · revert hc; revert c; decide
  · exact join_ascii _ (fun l hl c hc => by have := (drW_ok a hp h0 h1 n).sg l hl c hc; unfold okS at this; omega) c hc
  · revert hc; revert c; decide
theorem plain_len {ws : List (List Nat)} (h : WOk ws) (hn : ws.length ≤ 1000) : (plainL ws).length ≤ 7010 := by
  have := join_long h
  unfold plainL
  simp only [List.length_append, List.length_cons, List.length_nil]
  have : flagsB.length = 7 := rfl
  omega
theorem plain_size {p z : Int} (a : Int) (hp : 0 < p) (h0 : 0 ≤ z) (h1 : z < p) {n : Nat} (hn : n ≤ 1000) : (plainS p z a n).length ≤ sizeLine := by
  have e := congrArg Array.size (plain_bytes p z a n)
  simp only [Array.size_map, List.size_toArray] at e
  have := plain_len (drW_ok a hp h0 h1 n) (by rwa [drW_len])
  rw [sizeLine_eq]
  show (plainS p z a n).cps.size ≤ _
  omega
theorem plain_tx {ws : List (List Nat)} (h : WOk ws) (h2 : 2 ≤ ws.length) (h1 : ws.length ≤ 1000) : FlTx [42, 32] (ws.map wB) [] :=
  flTx h h2 h1 (by decide) (by decide) (fun x hx => by cases hx) (by decide)
/-- the answer with it -/
def permB : List UInt8 := [32, 91, 80, 69, 82, 77, 65, 78, 69, 78, 84]
def answerL (ws es : List (List Nat)) : List UInt8 := (plainL ws ++ permB) ++ flagsB ++ joinW (es.map wB) ++ 41 :: [93]
theorem plain_line {ws : List (List Nat)} (h : WOk ws) : ∀ x ∈ plainL ws, x ≠ 10 := by
  intro x hx
  unfold plainL at hx
  simp only [List.mem_append, List.mem_cons, List.not_mem_nil, or_false] at hx
  rcases hx with (((rfl | rfl) | hx) | hx) | rfl
  · decide
  · decide
  · revert hx; revert x; decide
  · rcases join_chars h x hx with rfl | hr
    · decide
    · exact range_ne hr (.inl (by decide))
  · decide
theorem answer_tx {ws es : List (List Nat)} (hw : WOk ws) (hn : ws.length ≤ 1000) (h : WOk es) (h2 : 2 ≤ es.length) (h1 : es.length ≤ 1000) : FlTx (plainL ws ++ permB) (es.map wB) [93] := by
  refine flTx h h2 h1 (fun x hx => ?_) ?_ (by decide) (by decide)
  · rcases List.mem_append.mp hx with hx | hx
    · exact plain_line hw x hx
    · have key : ∀ x ∈ permB, x ≠ 10 := by decide
      exact key x hx
  · have := plain_len hw hn
    rw [List.length_append]
    have : permB.length = 11 := rfl
    omega
/-- the row of cells -/
def cellW (p z : Int) (n : Nat) : List (List Nat) := (List.range n).map fun i => celL (cN p z i)
theorem cells_W (p z : Int) (n : Nat) : cells p z n = (cellW p z n).map fun l => (⟨l.toArray⟩ : Str) := by
  unfold cells cellW
  rw [List.map_map]
  rfl
theorem join_none : ∀ (Ls : List (List Nat)), ((Str.join ⟨#[]⟩ (Ls.map fun l => (⟨l.toArray⟩ : Str))).cps) = Ls.flatten.toArray
  | [] => by simp [Str.join, Str.empty]
  | [l] => by simp [Str.join]
  | l :: m :: Ls => by
    have ih := join_none (m :: Ls)
    show (l.toArray ++ #[]) ++ (Str.join ⟨#[]⟩ ((m :: Ls).map fun l : List Nat => (⟨l.toArray⟩ : Str))).cps = _
    rw [ih]
    apply Array.ext'
    simp
def rowL (p z : Int) (n : Nat) : List UInt8 := ((cellW p z n).map wB).flatten
theorem row_bytes (p z : Int) (n : Nat) : ((Txt.join (Str.ofString "") (cells p z n)).cps.map fun c => c.toUInt8) = (rowL p z n).toArray := by
  rw [of_none, join_eq, cells_W, join_none]
  apply Array.ext'
  simp [rowL, List.map_flatten]
  rfl
theorem cel_dig {c x : Nat} (hc : c < 3600) (hx : x ∈ celL c) : okS x := by
  unfold celL at hx
  simp only [List.mem_cons, List.not_mem_nil, or_false] at hx
  unfold okS
  rcases hx with rfl | rfl | rfl | rfl <;> omega
theorem row_ascii {p z : Int} (hp : 0 < p) (h0 : 0 ≤ z) (h1 : z < p) (n : Nat) : ∀ c ∈ (Txt.join (Str.ofString "") (cells p z n)).cps, c < 128 := by
  rw [of_none, join_eq, cells_W, join_none]
  intro c hc
  have hc : c ∈ (cellW p z n).flatten := by simpa using hc
  obtain ⟨l, hl, hc⟩ := List.mem_flatten.mp hc
  obtain ⟨i, _, rfl⟩ := List.mem_map.mp hl
  have := cel_dig (cN_lt hp h0 h1 i) hc
  unfold okS at this
  omega
theorem flat4 : ∀ {Ls : List (List UInt8)}, (∀ l ∈ Ls, l.length = 4) → Ls.flatten.length = 4 * Ls.length
  | [], _ => rfl
  | l :: Ls, h => by
    rw [List.flatten_cons, List.length_append, h l (by simp), flat4 (Ls := Ls) fun x hx => h x (List.mem_cons_of_mem _ hx), List.length_cons]
    omega
theorem flat_get : ∀ {Ls : List (List UInt8)}, (∀ l ∈ Ls, l.length = 4) → ∀ k j, j < 4 → Ls.flatten.getD (4 * k + j) 0 = (Ls.getD k []).getD j 0
  | [], _, k, j, _ => by simp
  | l :: Ls, h, 0, j, hj => by
    have := h l (by simp)
    rw [List.flatten_cons]
    simp [List.getD, List.getElem?_append_left (show j < l.length by omega)]
  | l :: Ls, h, k + 1, j, hj => by
    have hl := h l (by simp)
    have ih := flat_get (Ls := Ls) (fun x hx => h x (List.mem_cons_of_mem _ hx)) k j hj
    rw [List.flatten_cons]
    have e : 4 * (k + 1) + j = l.length + (4 * k + j) := by omega
    rw [e]
    simp only [List.getD] at ih ⊢
    rw [List.getElem?_append_right (by omega), Nat.add_sub_cancel_left, ih]
    simp
theorem row_len (p z : Int) (n : Nat) : (rowL p z n).length = 4 * n := by
  unfold rowL
  rw [flat4 (fun l hl => ?_)]
  · simp [cellW]
  · obtain ⟨x, hx, rfl⟩ := List.mem_map.mp hl
    obtain ⟨i, _, rfl⟩ := List.mem_map.mp hx
    rw [wB_len]; rfl
theorem row_get (p z : Int) {n k : Nat} (hk : k < n) {j : Nat} (hj : j < 4) : (rowL p z n).getD (4 * k + j) 0 = (wB (celL (cN p z k))).getD j 0 := by
  unfold rowL
  rw [flat_get (fun l hl => ?_) k j hj]
  · simp [cellW, List.getD, hk]
  · obtain ⟨x, hx, rfl⟩ := List.mem_map.mp hl
    obtain ⟨i, _, rfl⟩ := List.mem_map.mp hx
    rw [wB_len]; rfl
theorem bswap_len (W : Nat) (d : List UInt8) : (bswap W d).length = d.length := by simp [bswap]
theorem bswap_get {W : Nat} {d : List UInt8} {q : Nat} (hq : q < d.length) : (bswap W d).getD q 0 = d.getD (mir W q) 0 := by simp [bswap, List.getD, hq]
def turnL (p z : Int) (n : Nat) : List UInt8 := bswap 2 (bswap 4 (rowL p z n))
theorem turn_len (p z : Int) (n : Nat) : (turnL p z n).length = 4 * n := by rw [turnL, bswap_len, bswap_len, row_len]
theorem mir4 (k j : Nat) (hj : j < 4) : mir 4 (4 * k + j) = 4 * k + (3 - j) := by unfold mir; omega
theorem mir2e (m : Nat) : mir 2 (2 * m) = 2 * m + 1 := by unfold mir; omega
theorem mir2o (m : Nat) : mir 2 (2 * m + 1) = 2 * m := by unfold mir; omega
theorem turn_get (p z : Int) {n k : Nat} (hk : k < n) {j : Nat} (hj : j < 4) : (turnL p z n).getD (4 * k + j) 0 = (wB (exT (cN p z k))).getD j 0 := by
  have hl := row_len p z n
  unfold turnL
  rw [bswap_get (by rw [bswap_len, hl]; omega), bswap_get (by rw [hl]; unfold mir; omega)]
  have hj' : j = 0 ∨ j = 1 ∨ j = 2 ∨ j = 3 := by omega
  rcases hj' with rfl | rfl | rfl | rfl
  · rw [show mir 4 (mir 2 (4 * k + 0)) = 4 * k + 2 by rw [show 4 * k + 0 = 2 * (2 * k) by omega, mir2e, show 2 * (2 * k) + 1 = 4 * k + 1 by omega, mir4 k 1 (by decide)], row_get p z hk (by decide)]; rfl
  · rw [show mir 4 (mir 2 (4 * k + 1)) = 4 * k + 3 by rw [show 4 * k + 1 = 2 * (2 * k) + 1 by omega, mir2o, show 2 * (2 * k) = 4 * k + 0 by omega, mir4 k 0 (by decide)], row_get p z hk (by decide)]; rfl
  · rw [show mir 4 (mir 2 (4 * k + 2)) = 4 * k + 0 by rw [show 4 * k + 2 = 2 * (2 * k + 1) by omega, mir2e, show 2 * (2 * k + 1) + 1 = 4 * k + 3 by omega, mir4 k 3 (by decide)], row_get p z hk (by decide)]; rfl
  · rw [show mir 4 (mir 2 (4 * k + 3)) = 4 * k + 1 by rw [show 4 * k + 3 = 2 * (2 * k + 1) + 1 by omega, mir2o, show 2 * (2 * k + 1) = 4 * k + 2 by omega, mir4 k 2 (by decide)], row_get p z hk (by decide)]; rfl
theorem four_list {l : List UInt8} (hl : l.length = 4) : l = [l.getD 0 0, l.getD 1 0, l.getD 2 0, l.getD 3 0] := by
  match l, hl with
  | [a, b, c, d], _ => rfl
theorem getD_cut (l : List UInt8) (m j : Nat) (hj : j < 4) : ((l.drop m).take 4).getD j 0 = l.getD (m + j) 0 := by
  simp only [List.getD]
  rw [List.getElem?_take, if_pos hj, List.getElem?_drop]
/-- a part of the turned row -/
theorem turn_part (p z : Int) {n k : Nat} (hk : k < n) : ((turnL p z n).drop (4 * k)).take 4 = wB (exT (cN p z k)) := by
  have hl := turn_len p z n
  have h4 : (((turnL p z n).drop (4 * k)).take 4).length = 4 := by
    rw [List.length_take, List.length_drop]; omega
  rw [four_list h4, getD_cut _ _ _ (by decide), getD_cut _ _ _ (by decide), getD_cut _ _ _ (by decide), getD_cut _ _ _ (by decide),
    turn_get p z hk (by decide), turn_get p z hk (by decide), turn_get p z hk (by decide), turn_get p z hk (by decide)]
  exact (four_list (by rw [wB_len]; rfl)).symm
theorem len_sum : ∀ {ys : List Str}, (∀ y ∈ ys, y.length ≤ 6) → (ys.map (·.length)).sum ≤ 6 * ys.length
  | [], _ => Nat.le_refl _
  | y :: ys, h => by
    have h1 := h y (by simp)
    have h2 := len_sum (ys := ys) fun x hx => h x (List.mem_cons_of_mem _ hx)
    simp only [List.map_cons, List.sum_cons, List.length_cons]
    omega
theorem dr_sum {p z : Int} (a : Int) (hp : 0 < p) (h0 : 0 ≤ z) (h1 : z < p) {n : Nat} (hn : n < 47) : ((drL p z a n).map (·.length)).sum + (drL p z a n).length * 64 ≤ 16777216 := by
  have h := len_sum (ys := drL p z a n) fun y hy => by
    rw [drL_W] at hy
    obtain ⟨l, hl, rfl⟩ := List.mem_map.mp hy
    exact ((drW_ok a hp h0 h1 n).le l hl).2
  rw [drL_len] at h ⊢
  omega
theorem cell_sum (p z : Int) {n : Nat} (hn : n < 47) : ((cells p z n).map (·.length)).sum + (cells p z n).length * 64 ≤ 16777216 := by
  have h := len_sum (ys := cells p z n) fun y hy => by
    obtain ⟨l, hl, rfl⟩ := List.mem_map.mp hy
    show 4 ≤ 6
    decide
  rw [cells_len] at h ⊢
  omega
theorem row_size (p z : Int) {n : Nat} (hn : n < 47) : (Txt.join (Str.ofString "") (cells p z n)).length ≤ sizeLine := by
  have e := congrArg Array.size (row_bytes p z n)
  simp only [Array.size_map, List.size_toArray, row_len] at e
  rw [sizeLine_eq]
  show (Txt.join (Str.ofString "") (cells p z n)).cps.size ≤ _
  omega
theorem len_app (x y : Str) : (x ++ y).length = x.length + y.length := by
  show (x.cps ++ y.cps).size = _
  rw [Array.size_append]; rfl
theorem plain_len2 {p z : Int} (a : Int) (hp : 0 < p) (h0 : 0 ≤ z) (h1 : z < p) {n : Nat} (hn : n ≤ 1000) : (plainS p z a n).length ≤ 7010 := by
  have e := congrArg Array.size (plain_bytes p z a n)
  simp only [Array.size_map, List.size_toArray] at e
  have := plain_len (drW_ok a hp h0 h1 n) (by rwa [drW_len])
  show (plainS p z a n).cps.size ≤ _
  omega
theorem plain_add1 {p z : Int} (a : Int) (hp : 0 < p) (h0 : 0 ≤ z) (h1 : z < p) {n : Nat} (hn : n < 47) : (Str.ofString "* FLAGS (").length + (Txt.join (Str.ofString " ") (drL p z a n)).length ≤ 16777216 := by
  have := plain_len2 a hp h0 h1 (n := n) (by omega)
  unfold plainS at this
  rw [len_app, len_app] at this
  omega
theorem plain_add2 {p z : Int} (a : Int) (hp : 0 < p) (h0 : 0 ≤ z) (h1 : z < p) {n : Nat} (hn : n < 47) : (Str.ofString "* FLAGS (" ++ Txt.join (Str.ofString " ") (drL p z a n)).length + (Str.ofString ")").length ≤ 16777216 := by
  have := plain_len2 a hp h0 h1 (n := n) (by omega)
  unfold plainS at this
  rw [len_app] at this
  omega
theorem row_mod (p z : Int) (n : Nat) : (rowL p z n).length % 4 = 0 := by rw [row_len]; omega
theorem row_1000 (p z : Int) {n : Nat} (hn : n < 47) : (rowL p z n).length ≤ 1000 := by rw [row_len]; omega
theorem row2_mod (p z : Int) (n : Nat) : (bswap 4 (rowL p z n)).length % 4 = 0 := by rw [bswap_len]; exact row_mod p z n
theorem row2_1000 (p z : Int) {n : Nat} (hn : n < 47) : (bswap 4 (rowL p z n)).length ≤ 1000 := by rw [bswap_len]; exact row_1000 p z hn
end Mine
end
section
open PySem PySem.W PySem.Calls PySem.Spec PyProof.Rows
set_option maxRecDepth 100000
namespace Mine
open Builtin Builtin.Bytes
theorem take_eq (b : Array UInt8) (t : Tok) : Bytes.takeBufferQuiet? "bytes.join" (.bytes b t) 0 = pure (some (b, none)) := by first | rfl | kernel_rfl
theorem slot_bjoin : Slot "bytes" "join" "bytes.join" :=
  .of (owner := "bytes") (n := "join") (by rw [typeLookup_type, builtinLookup_eq_fast]; kernel_rfl) (by decide +kernel) (by decide +kernel) (by decide +kernel)
    (by first | exact .inl (by decide +kernel) | exact .inr (by decide +kernel)) (by rw [isSubtype_type]; kernel_rfl)
theorem entry_bjoin : entryFor table "bytes.join" = some Builtin.«bytes.join» := entryFor_of_tree (by kernel_rfl)
theorem args_bjoin (a b : Value) : argsOk "bytes.join" ⟨[a, b], []⟩ := by
  unfold argsOk; rw [signature?_of (id := "bytes.join") (n := ['n', 'i', 'o', 'j']) (o := ['s', 'e', 't', 'y', 'b']) (by kernel_rfl) FB.owner_bytes]; kernel_rfl
theorem type_bjoin : typeOf (.builtin "bytes.join") = pure (.type "method_descriptor") := by kernel_rfl
theorem join_rest (rest : List (List UInt8)) : ∀ (w : List UInt8), joinW (w :: rest) = w ++ (rest.map fun x => 32 :: x).flatten := by
  induction rest with
  | nil => intro w; simp [joinW]
  | cons v rest ih => intro w; simp only [joinW, ih v, List.map_cons, List.flatten_cons, List.cons_append]
theorem fold_rest (rest : List (List UInt8)) : ∀ (acc : Array UInt8) (k : Nat), ((rest.map (·.toArray)).zipIdx (k + 1)).foldl (fun out (p : Array UInt8 × Nat) => (if p.2 > 0 then out ++ #[32] else out) ++ p.1) acc = acc ++ ((rest.map fun x => 32 :: x).flatten).toArray := by
  induction rest with
  | nil => intro acc k; simp
  | cons v rest ih =>
    intro acc k
    rw [List.map_cons, List.zipIdx_cons, List.foldl_cons, ih]
    apply Array.ext'
    simp
theorem joined_eq (ws : List (List UInt8)) : Bytes.joined #[32] (ws.map (·.toArray)) = (joinW ws).toArray := by
  cases ws with
  | nil => rfl
  | cons w rest =>
    rw [join_rest]
    unfold Bytes.joined
    rw [List.map_cons, List.zipIdx_cons, List.foldl_cons]
    show ((rest.map (·.toArray)).zipIdx (0 + 1)).foldl (fun out (p : Array UInt8 × Nat) => (if p.2 > 0 then out ++ #[32] else out) ++ p.1) (#[] ++ w.toArray) = _
    rw [fold_rest]
    apply Array.ext'
    simp
section
variable {prog : Program} {w : World} {A : Around} {E : Value → Shared → Prop} {s : Shared}
theorem meth_bjoin {b : Array UInt8} {t : Tok} {pl : Sem Bool} {Q : Value × List Value → Shared → Prop} (h : Q (.builtin "bytes.join", [.bytes b t]) s) : wpAny (model prog w) A (getMethod (.bytes b t) "join" pl) Q E s :=
  getMethod_builtin (T := "bytes") rfl FB.plainAttrs_bytes slot_bjoin type_bjoin (fun _ e => nomatch e) h
theorem wp_forIn {σ : Type} {M : Model} {n : Nat} (B : Nat → σ → Sem (ForInStep σ)) (J : Nat → σ → Prop) (hB : ∀ i st, i < n → J i st → wpAny M A (B i st) (fun r s' => s' = s ∧ ∃ st', r = .yield st' ∧ J (i + 1) st') E s) :
    ∀ (k i : Nat) (st : σ), i + k = n → J i st → wpAny M A (forIn (List.range' i k) st B) (fun st' s' => s' = s ∧ J n st') E s := by
  intro k
  induction k with
  | zero =>
    intro i st e hJ
    have : i = n := by omega
    subst this
    exact wpAny_pure ⟨rfl, hJ⟩
  | succ k ih =>
    intro i st e hJ
    rw [List.range'_succ, List.forIn_cons]
    refine wpAny_bind (wpAny_mono (hB i st (by omega) hJ) (fun r s' hr => ?_) fun _ _ e => e)
    obtain ⟨rfl, st', rfl, hJ'⟩ := hr
    exact ih (i + 1) st' (by omega) hJ'
theorem wp_items {M : Model} {D : Addr} {xs : Array Value} {Q : Option (Array Value) → Shared → Prop} (hl : s.heap.IsList D xs) (h : Q (some xs) s) : wpAny M A (seqItems? (.ref D)) Q E s := by
  obtain ⟨o, ho, hc, n, hdata⟩ := hl
  unfold seqItems?
  refine wpAny_bind (wpAny_load ho ?_)
  rw [hdata]
  exact wpAny_pure h
theorem bytes_at {vs : List Value} {ws : List (List UInt8)} (hi : BytesAre vs ws) : ∀ {k : Nat}, k < ws.length → ∃ t, vs[k]? = some (.bytes (ws.getD k []).toArray t) := by
  induction hi with
  | nil => intro k hk; exact absurd hk (Nat.not_lt_zero _)
  | @cons w t vs ws r ih =>
    intro k hk
    cases k with
    | zero => exact ⟨t, rfl⟩
    | succ k =>
      obtain ⟨t', e⟩ := ih (Nat.lt_of_succ_lt_succ hk)
      exact ⟨t', by simpa [List.getD] using e⟩
theorem id_bjoin : toString Kind.bytes.name ++ toString ".join" = "bytes.join" := by decide
theorem fold_size (l : List (Array UInt8)) : ∀ a, l.foldl (fun x1 x2 => x1 + x2.size) a = a + (l.map (·.size)).sum := by
  induction l with
  | nil => intro a; simp
  | cons x l ih => intro a; rw [List.foldl_cons, ih, List.map_cons, List.sum_cons]; omega
theorem joinW_total : ∀ {ws : List (List UInt8)}, 1 ≤ ws.length → (joinW ws).length = (ws.length - 1) + ((ws.map (·.toArray)).map (·.size)).sum
  | [w], _ => by simp [joinW]
  | w :: v :: ws, _ => by
    have ih := joinW_total (ws := v :: ws) (by simp)
    simp only [joinW, List.length_append, List.length_cons, List.map_cons, List.sum_cons, List.size_toArray] at ih ⊢
    omega
theorem wp_letGo2 {M : Model} {keep : List Value} : ∀ (taken : List (Value × Option Value)) {Q : Unit → Shared → Prop}, (∀ x ∈ taken, x.2 = none) → Q () s → wpAny M A (joinLetGo taken keep) Q E s := by
  intro taken
  induction taken with
  | nil => intro Q _ h; exact wpAny_pure h
  | cons x r ih =>
    intro Q hx h
    obtain ⟨x, w⟩ := x
    have : w = none := hx (x, w) (by simp)
    subst this
    unfold joinLetGo
    dsimp only
    refine wpAny_bind (wpAny_letGo ?_)
    exact ih (fun y hy => hx y (List.mem_cons_of_mem _ hy)) h
theorem call_bjoin {ws : List (List UInt8)} {vs : List Value} {D : Addr} {t : Tok} {Q : Value → Shared → Prop} (hl : s.heap.IsList D vs.toArray) (hv : BytesAre vs ws) (h2 : 2 ≤ ws.length) (hz : (joinW ws).length ≤ 16777216)
    (h : ∀ t' k, Q (.bytes (joinW ws).toArray t') { s with toks := k }) : wpAny (model prog w) A (call (.builtin "bytes.join") [.bytes #[32] t, .ref D]) Q E s := by
  refine wpAny_call_entry slot_bjoin (typeIs_bytes _ _ _) entry_bjoin ?_ (args_bjoin _ _)
  have hlen := hv.length
  unfold «bytes.join» joinM
  dsimp only
  rw [id_bjoin]
  refine wpAny_bind (wpAny_of_eq (a := (Value.bytes #[32] t, Value.ref D)) rfl ?_)
  refine bm_if_true rfl ?_
  refine wpAny_bind ?_
  unfold joinItems
  refine wpAny_bind (wpAny_typeOf hl.typeIs ?_)
  refine bm_if_true rfl ?_
  refine wpAny_pure ?_
  refine wpAny_bind (wp_items hl ?_)
  dsimp only
  refine bm_if_true rfl ?_
  have hxz : vs.toArray.size = vs.length := List.size_toArray ..
  have hxg : ∀ i, vs.toArray.getD i .none = (vs[i]?).getD .none := fun i => by simp only [Array.getD_eq_getD_getElem?, List.getElem?_toArray]
  revert hl hxz hxg
  generalize vs.toArray = xs
  intro hl hxz hxg
  obtain ⟨l⟩ := xs
  match l, hl, hxz, hxg with
  | [], _, hxz, _ => exfalso; simp at hxz; omega
  | [x], _, hxz, _ => exfalso; simp at hxz; omega
  | v1 :: v2 :: r, hl, hxz, hxg =>
    revert hl hxz hxg
    generalize hxs : (⟨v1 :: v2 :: r⟩ : Array Value) = xs
    intro hl hxz hxg
    rw [← hxs]
    refine wpAny_bind ?_
    rw [hxs]
    simp only [Std.Legacy.Range.forIn_eq_forIn_range']
    have hsz : [:xs.size].size = vs.length := by simp [Std.Legacy.Range.size, hxz]
    rw [hsz]
    refine wpAny_mono (wp_forIn (n := vs.length) _ (fun i (st : Array (Array UInt8) × List (Value × Option Value)) => st.1.toList = (ws.take i).map (·.toArray) ∧ st.2 = (vs.take i).map fun v => (v, none)) ?hB vs.length 0 (#[], []) (by omega) ⟨by simp, by simp⟩) (fun st s' hst => ?_) fun _ _ e => e
    case hB =>
      rintro i ⟨ps, tk⟩ hi ⟨hJ1, hJ2⟩
      dsimp only at hJ1 hJ2
      obtain ⟨tv, hvi⟩ := bytes_at hv (k := i) (by omega)
      have hg : xs.getD i .none = .bytes (ws.getD i []).toArray tv := by
        rw [hxg, hvi]; rfl
      refine wpAny_bind (wp_items hl ?_)
      dsimp only
      rw [hg]
      refine bm_if_false ?_ ?_
      · rw [hJ2]
        rw [Bool.or_eq_false_iff]
        refine ⟨rfl, any_false fun x hx => ?_⟩
        obtain ⟨v, hv', rfl⟩ := List.mem_map.mp hx
        obtain ⟨j, hj, e⟩ := List.getElem_of_mem (List.mem_of_mem_take hv')
        obtain ⟨t', e'⟩ := bytes_at hv (k := j) (by omega)
        rw [List.getElem?_eq_getElem hj, e] at e'
        injection e' with e'
        subst e'
        rfl
      refine wpAny_bind (wpAny_holding (wpAny_of_eq (take_eq _ _) ?_))
      dsimp only
      refine wpAny_bind (wp_items hl ?_)
      dsimp only
      refine bm_if_false (by simp) ?_
      refine wpAny_pure ⟨rfl, _, rfl, ?_, ?_⟩
      · dsimp only
        have hi' : i < ws.length := by omega
        rw [Array.toList_push, hJ1, List.take_succ_eq_append_getElem hi', List.map_append]
        simp [List.getD, hi']
      · dsimp only
        have hi' : i < vs.length := hi
        rw [hJ2, List.take_succ_eq_append_getElem hi', List.map_append]
        rw [List.getElem?_eq_getElem hi'] at hvi
        injection hvi with hvi
        simp [hvi]
    · obtain ⟨rfl, hJ1, hJ2⟩ := hst
      obtain ⟨ps, tk⟩ := st
      dsimp only at hJ1 hJ2 ⊢
      rw [List.take_of_length_le (by omega)] at hJ1
      rw [List.take_of_length_le (by omega)] at hJ2
      refine wpAny_bind (wpAny_of_eq (a := (#[32] : Array UInt8)) rfl ?_)
      have hps : ps.size = ws.length := by rw [← Array.length_toList, hJ1, List.length_map]
      refine bm_if_false ?_ ?_
      · rw [← Array.foldl_toList, hJ1, fold_size, hps]
        have := joinW_total (ws := ws) (by omega)
        unfold tooLong
        rw [sizeLine_eq]
        have e1 : (#[32] : Array UInt8).size = 1 := rfl
        rw [e1]
        exact decide_eq_false (by omega)
      rw [hJ1, joined_eq]
      refine wpAny_bind ?_
      show wpAny _ _ (mkBytes (joinW ws).toArray) _ _ _
      refine wpAny_mkBytes ?_ (by rw [sizeLine_eq, List.size_toArray]; exact hz)
      refine wpAny_bind (wpAny_holding (wpAny_point ?_))
      refine wpAny_bind (wp_letGo2 _ (fun x hx => ?_) ?_)
      · rw [hJ2] at hx
        obtain ⟨v, _, rfl⟩ := List.mem_map.mp hx
        rfl
      · exact wpAny_pure ⟨_, rfl, h _ _⟩
end
end Mine
end
section
open PySem PySem.W PySem.Spec PySem.Calls PyProof.Rows
namespace Mine
theorem clip_in {n : Nat} {k : Int} (h0 : 0 ≤ k) (h1 : k ≤ n) : clipAt n k = k.toNat := by
  unfold clipAt
  rw [if_neg (by omega)]
  congr 1
  omega
theorem bints_inj {a : Array UInt8} {l : List UInt8} (h : KBw.bInts a = l.map fun c => (c.toNat : Int)) : a = l.toArray := by
  apply Array.ext'
  refine List.map_inj_right (f := fun c : UInt8 => (c.toNat : Int)) (fun x y e => ?_) |>.mp h
  exact UInt8.toNat_inj.mp (Int.ofNat.inj e)
theorem part_cut (p z : Int) {n i : Nat} (hi : i < n) (lo hi' : Int) (hlo : lo = 4 * (i : Int)) (hhi : hi' = 4 * (i : Int) + 4)
    (hk : KBw.bInts (KBy.picked (turnL p z n).toArray (some lo) (some hi')) = ((KBw.bInts (turnL p z n).toArray).drop ((some lo).elim 0 (clipAt (KBw.bInts (turnL p z n).toArray).length))).take ((some hi').elim (KBw.bInts (turnL p z n).toArray).length (clipAt (KBw.bInts (turnL p z n).toArray).length) - (some lo).elim 0 (clipAt (KBw.bInts (turnL p z n).toArray).length))) :
    KBy.picked (turnL p z n).toArray (some lo) (some hi') = (wB (exT (cN p z i))).toArray := by
  subst hlo hhi
  have hl : (KBw.bInts (turnL p z n).toArray).length = 4 * n := by rw [KBw.ints_length, List.size_toArray, turn_len]
  rw [hl] at hk
  simp only [Option.elim] at hk
  rw [clip_in (by omega) (by omega), clip_in (by omega) (by omega)] at hk
  have e1 : (4 * (i : Int)).toNat = 4 * i := by omega
  have e2 : (4 * (i : Int) + 4).toNat - (4 * (i : Int)).toNat = 4 := by omega
  rw [e2, e1] at hk
  rw [← turn_part p z hi]
  apply bints_inj
  rw [hk]
  unfold KBw.bInts
  rw [← List.map_drop, ← List.map_take]
theorem turn_size (p z : Int) {n : Nat} (hn : n < 47) : (KBw.bInts (turnL p z n).toArray).length ≤ 16777216 := by
  rw [KBw.ints_length, List.size_toArray, turn_len]; omega
theorem ix4 (i : Nat) : 4 * (0 + (i : Int) * 1) = 4 * (i : Int) := by omega
theorem ix44 (i : Nat) : 4 * (0 + (i : Int) * 1) + 4 = 4 * (i : Int) + 4 := by omega
theorem BytesAre.append1 {vs : List Value} {ws : List (List UInt8)} {w : List UInt8} {t : Tok} (h : BytesAre vs ws) : BytesAre (vs ++ [.bytes w.toArray t]) (ws ++ [w]) := by
  induction h with
  | nil => exact .cons .nil
  | cons _ ih => exact .cons ih
theorem bytes_of {ys : List Value} {g : Nat → List UInt8} : ∀ {n : Nat}, ys.length = n → (∀ i, i < n → ∃ y, ys[i]? = some y ∧ ∃ t, y = .bytes (g i).toArray t) → BytesAre ys ((List.range n).map g) := by
  intro n
  induction n generalizing ys with
  | zero => intro hl _; obtain rfl := List.length_eq_zero_iff.mp hl; exact .nil
  | succ n ih =>
    intro hl h
    obtain ⟨y, hy, t, e⟩ := h n (Nat.lt_succ_self n)
    have hd : ys = ys.take n ++ [y] := by
      rw [List.getElem?_eq_some_iff] at hy
      obtain ⟨hb, hy⟩ := hy
      have := List.take_append_getElem (l := ys) (i := n) hb
      rw [← hy, this, List.take_of_length_le (by omega)]
    rw [hd, List.range_succ, List.map_append]
    subst e
    refine BytesAre.append1 (ih (by rw [List.length_take]; omega) fun i hi => ?_)
    obtain ⟨y', h1, h2⟩ := h i (by omega)
    exact ⟨y', by rw [List.getElem?_take, if_pos hi]; exact h1, h2⟩
theorem parts_are {ys : List Value} {p z : Int} {n : Nat} (hl : ys.length = n) (h : ∀ i, i < n → ∃ y, ys[i]? = some y ∧ ∃ t, y = .bytes (wB (exT (cN p z i))).toArray t) : BytesAre ys ((exW p z n).map wB) := by
  unfold exW
  rw [List.map_map]
  exact bytes_of hl h
theorem half_two {p : Int} (hp : p = 23 ∨ p = 47 ∨ p = 19) : 2 ≤ ((p - 1) / 2).toNat := by rcases hp with rfl | rfl | rfl <;> decide
theorem ex_two {p : Int} (z : Int) (hp : p = 23 ∨ p = 47 ∨ p = 19) : 2 ≤ ((exW p z ((p - 1) / 2).toNat).map wB).length := by
  rw [List.length_map, exW_len]; exact half_two hp
theorem ex_size {p z : Int} (hp : 0 < p) (h0 : 0 ≤ z) (h1 : z < p) {n : Nat} (hn : n < 47) : (joinW ((exW p z n).map wB)).length ≤ 16777216 := by
  have := join_long (exW_ok hp h0 h1 n)
  rw [exW_len] at this
  omega
def c1B : Array UInt8 := #[32, 91, 80, 69, 82, 77, 65, 78, 69, 78, 84, 70, 76, 65, 71, 83, 32, 40]
theorem answer_eq (ws es : List (List Nat)) : (plainL ws).toArray ++ #[32, 91, 80, 69, 82, 77, 65, 78, 69, 78, 84, 70, 76, 65, 71, 83, 32, 40] ++ (joinW (es.map wB)).toArray ++ #[41, 93] = (answerL ws es).toArray := by
  apply Array.ext'
  simp [answerL, permB, flagsB]
theorem sz1 {p z : Int} (a : Int) (hp : 0 < p) (h0 : 0 ≤ z) (h1 : z < p) {n : Nat} (hn : n < 47) : (plainL (drW p z a n)).toArray.size + (#[32, 91, 80, 69, 82, 77, 65, 78, 69, 78, 84, 70, 76, 65, 71, 83, 32, 40] : Array UInt8).size ≤ 16777216 := by
  have := plain_len (drW_ok a hp h0 h1 n) (by rw [drW_len]; omega)
  have e : (#[32, 91, 80, 69, 82, 77, 65, 78, 69, 78, 84, 70, 76, 65, 71, 83, 32, 40] : Array UInt8).size = 18 := rfl
  rw [e, List.size_toArray]; omega
theorem sz2 {p z : Int} (a : Int) (hp : 0 < p) (h0 : 0 ≤ z) (h1 : z < p) {n : Nat} (hn : n < 47) : ((plainL (drW p z a n)).toArray ++ (#[32, 91, 80, 69, 82, 77, 65, 78, 69, 78, 84, 70, 76, 65, 71, 83, 32, 40] : Array UInt8)).size + ((joinW ((exW p z n).map wB)).toArray).size ≤ 16777216 := by
  have := plain_len (drW_ok a hp h0 h1 n) (by rw [drW_len]; omega)
  have e : (#[32, 91, 80, 69, 82, 77, 65, 78, 69, 78, 84, 70, 76, 65, 71, 83, 32, 40] : Array UInt8).size = 18 := rfl
  have h2 := join_long (exW_ok hp h0 h1 n)
  rw [exW_len] at h2
  rw [Array.size_append, e, List.size_toArray, List.size_toArray]; omega
theorem sz3 {p z : Int} (a : Int) (hp : 0 < p) (h0 : 0 ≤ z) (h1 : z < p) {n : Nat} (hn : n < 47) : ((plainL (drW p z a n)).toArray ++ (#[32, 91, 80, 69, 82, 77, 65, 78, 69, 78, 84, 70, 76, 65, 71, 83, 32, 40] : Array UInt8) ++ (joinW ((exW p z n).map wB)).toArray).size + (#[41, 93] : Array UInt8).size ≤ 16777216 := by
  have := plain_len (drW_ok a hp h0 h1 n) (by rw [drW_len]; omega)
  have e : (#[32, 91, 80, 69, 82, 77, 65, 78, 69, 78, 84, 70, 76, 65, 71, 83, 32, 40] : Array UInt8).size = 18 := rfl
  have e2 : (#[41, 93] : Array UInt8).size = 2 := rfl
  have h2 := join_long (exW_ok hp h0 h1 n)
  rw [exW_len] at h2
  rw [Array.size_append, Array.size_append, e, e2, List.size_toArray, List.size_toArray]; omega
end Mine
end
section
open PySem PySem.W PySem.Spec PySem.Calls PyProof.Rows
namespace Mine
local macro_rules | `(tactic| walk_at "getMethod ref") => `(tactic| (k_here; refine Mine.hold_in ?_))
local macro_rules | `(tactic| walk_at "call builtin:re.Pattern.search") => `(tactic| (k_here; refine Mine.hold_in ?_))
local macro_rules | `(tactic| walk_at "truthy ref") => `(tactic| (k_here; refine Mine.hold_in ?_))
local macro_rules | `(tactic| walk_at "call builtin:re.Match.group") => `(tactic| (k_here; refine Mine.hold_in ?_))
set_option maxRecDepth 100000 in
set_option maxHeartbeats 8000000 in
theorem tzc (sg co : Nat) (hs ms : List Nat) (x : Str) (t1 : Tok) (h : TzTx sg hs co ms) (hx : x.cps = (tzL sg hs co ms).toArray) : Ct 2 44 [.str x t1] (fun r _ _ => ∃ tk, r = .int (tzV sg hs ms) tk) := by
  obtain ⟨z1, z2, z3, z4, z5, z6⟩ := tz_all h hx
  w_top off
  k_with_none
  delta Ct KK VW LS PG ar
  k_fill
  intro w mean mg mb dp un fr gd s Q E X T hd hu hret
  have hP := X _ _ (tz_pat w)
  refine wpAny_call ?_
  k_dflt (refine' enterP ?k1 ?k2 ?k3 ?k4 ?k5 ?k6 ?k7 ?_ ?c1 ?c2 ?c3 ?c4; (case k1 => exact X); (case k2 => exact T); (case k3 => k_is); (case k4 => k_is); (case k5 => dsimp only; omega); (case k6 => exact BindsTo.of_eq rfl); (case k7 => exact locs rfl); (case c1 => exact rfl); (case c2 => exact rfl); (case c3 => exact rfl); (case c4 => decide))
  intro L' h₁ hL F'
  have N' : News s.heap L' h₁ [] := News.nil
  try dsimp only
  k_steps
  · exfalso
    rename (_ || _) = true => hz
    exact zone_no z2 hz
  · unfold Hold
    (rename Fr _ _ _ _ => lF')
    refine meth_search (fr_at lF' hP) rfl rfl ?_
    k_steps
    unfold Hold
    (rename News _ _ _ _ => lN')
    refine searchC h.ok z1 lF' X lN' fun XM Tp n li h' F' N' hne _ _ => ?_
    clear lF' lN'
    k_steps
    unfold Hold
    (rename Fr _ _ _ _ => lF'); (rename News _ _ _ _ => lN')
    refine match_truthy (news_at lN' (List.Mem.head _)) rfl ?_
    k_steps
    unfold Hold
    refine meth_group (news_at lN' (List.Mem.head _)) rfl rfl ?_
    k_steps
    unfold Hold
    refine group_str (n := 2) (b := if sg = 0 then 0 else 1) (e := (if sg = 0 then 0 else 1) + hs.length) (news_at lN' (List.Mem.head _)) (news_at lN' (List.Mem.tail _ (List.Mem.head _))) (by simp [tzS]) rfl rfl (by omega) ?_
    rw [z3]
    k_steps
    refine KIN.call_text (int_digits h.ok.h h.dh) (by have e : hs.length = 1 ∨ hs.length = 2 := h.ok.h; show hs.toArray.size ≤ 640; rw [List.size_toArray]; omega) ?_
    k_steps
    unfold Hold
    (rename News _ _ _ _ => lN')
    refine meth_group (news_at lN' (List.Mem.head _)) rfl rfl ?_
    k_steps
    unfold Hold
    refine group_str (n := 3) (b := (if sg = 0 then 0 else 1) + hs.length + co) (e := (if sg = 0 then 0 else 1) + hs.length + co + 2) (news_at lN' (List.Mem.head _)) (news_at lN' (List.Mem.tail _ (List.Mem.head _))) (by simp [tzS]) rfl rfl (by omega) ?_
    rw [z4]
    k_steps
    have hms : (Str.length ⟨ms.toArray⟩) = 2 := by show ms.toArray.size = 2; rw [List.size_toArray]; exact h.lm
    refine SBL.truthy (by rw [hms]; decide) ?_
    rw [hms]
    rw [if_pos (by decide)]
    k_steps
    unfold Hold
    refine meth_group (news_at lN' (List.Mem.head _)) rfl rfl ?_
    k_steps
    unfold Hold
    refine group_str (n := 3) (b := (if sg = 0 then 0 else 1) + hs.length + co) (e := (if sg = 0 then 0 else 1) + hs.length + co + 2) (news_at lN' (List.Mem.head _)) (news_at lN' (List.Mem.tail _ (List.Mem.head _))) (by simp [tzS]) rfl rfl (by omega) ?_
    rw [z4]
    k_steps
    refine KIN.call_text (int_digits (.inr h.lm) h.dm) (by show ms.toArray.size ≤ 640; rw [List.size_toArray, h.lm]; decide) ?_
    k_steps
    unfold Hold
    (rename News _ _ _ _ => lN')
    refine meth_group (news_at lN' (List.Mem.head _)) rfl rfl ?_
    k_steps
    unfold Hold
    obtain ⟨⟨h1, h2, h3⟩, h4, h5, h6⟩ := h
    rcases h1 with rfl | rfl | rfl
    · refine group_none (n := 1) (news_at lN' (List.Mem.head _)) (news_at lN' (List.Mem.tail _ (List.Mem.head _))) (by simp [tzS]) (by show (-1 : Int) < 0; decide) ?_
      k_steps
      exact hret _ _ _ ⟨_, rfl⟩ (fr_keep (by assumption))
    · refine group_str (n := 1) (b := 0) (e := 1) (news_at lN' (List.Mem.head _)) (news_at lN' (List.Mem.tail _ (List.Mem.head _))) (by simp [tzS]) rfl rfl (by omega) ?_
      rw [z5 (by decide)]
      k_steps
      exact hret _ _ _ ⟨_, rfl⟩ (fr_keep (by assumption))
    · refine group_str (n := 1) (b := 0) (e := 1) (news_at lN' (List.Mem.head _)) (news_at lN' (List.Mem.tail _ (List.Mem.head _))) (by simp [tzS]) rfl rfl (by omega) ?_
      rw [z5 (by decide)]
      k_steps
      exact hret _ _ _ ⟨_, rfl⟩ (fr_keep (by assumption))
end Mine
end
section
open PySem PySem.W PySem.Spec PySem.Calls PyProof.Rows
namespace Mine
local macro_rules | `(tactic| walk_at "getMethod ref") => `(tactic| (k_here; refine Mine.hold_in ?_))
local macro_rules | `(tactic| walk_at "getMethod bytes") => `(tactic| (k_here; refine Mine.hold_in ?_))
local macro_rules | `(tactic| walk_at "call builtin:re.Pattern.match") => `(tactic| (k_here; refine Mine.hold_in ?_))
local macro_rules | `(tactic| walk_at "truthy ref") => `(tactic| (k_here; refine Mine.hold_in ?_))
local macro_rules | `(tactic| walk_at "call builtin:re.Match.group") => `(tactic| (k_here; refine Mine.hold_in ?_))
local macro_rules | `(tactic| walk_at "call builtin:bytes.split") => `(tactic| (k_here; refine Mine.hold_in ?_))
local macro_rules | `(tactic| walk_at "call type:tuple") => `(tactic| (k_here; refine Mine.hold_in ?_))
set_option maxRecDepth 100000 in
set_option maxHeartbeats 8000000 in
theorem pflags (a c : List UInt8) (ws : List (List UInt8)) (l : List UInt8) (t1 : Tok) (h : FlTx a ws c) (hl : l = a ++ flagsB ++ joinW ws ++ 41 :: c) : Ct 2 70 [.bytes l.toArray t1] (Gives fun o => ∃ vs, o = tupObj vs ∧ BytesAre vs ws) := by
  obtain ⟨⟨sn, z1⟩, z2, z3⟩ := fl_text h hl
  w_top off
  k_with_none
  delta Ct KK VW LS PG ar
  k_fill
  intro w mean mg mb dp un fr gd s Q E X T hd hu hret
  obtain ⟨a0, a1, a4, tg, hP0⟩ := fl_pat w
  have hP := X _ _ hP0
  have hC := X _ _ (fl_code w)
  have hT := fl_tab X
  refine wpAny_call ?_
  k_dflt (refine' enterP ?k1 ?k2 ?k3 ?k4 ?k5 ?k6 ?k7 ?_ ?c1 ?c2 ?c3 ?c4; (case k1 => exact X); (case k2 => exact T); (case k3 => k_is); (case k4 => k_is); (case k5 => dsimp only; omega); (case k6 => exact BindsTo.of_eq rfl); (case k7 => exact locs rfl); (case c1 => exact rfl); (case c2 => exact rfl); (case c3 => exact rfl); (case c4 => decide))
  intro L' h₁ hL F'
  have N' : News s.heap L' h₁ [] := News.nil
  try dsimp only
  k_steps
  unfold Hold
  (rename Fr _ _ _ _ => lF')
  refine meth_match (fr_at lF' hP) rfl rfl ?_
  k_steps
  unfold Hold
  (rename News _ _ _ _ => lN')
  obtain ⟨f1, f2, f3⟩ := fl_facts (T := l.toArray.map (·.toNat)) (N := l.length) (a := a.length) (b := (joinW ws).length) (sn := sn)
  refine call_match (l.length + 20) (by omega) (by omega) (by omega) (fr_at lF' hP) (fr_at lF' hC) (by rw [List.size_toArray]; omega) (by rw [List.size_toArray]; exact z1) f1 f2 fun XM Tp h' h1 h2 h3 h4 h5 h6 => ?_
  have h5' : h'.get? Tp = some (tupObj ([((0 : Nat) : Int), ((a.length + 7 + (joinW ws).length + 1 : Nat) : Int), ((a.length + 7 : Nat) : Int), ((a.length + 7 + (joinW ws).length : Nat) : Int)].map rawInt)) := h5
  have N1 := news_add lF' (news_keeps lN' h6) h2 h5'
  have N2 := news_add lF' N1 h1 h4
  have F2 := fr_keeps lF' h6
  clear lF' lN' N1 h5 h5' h4 h6
  k_steps
  unfold Hold
  (rename News _ _ _ _ => lN')
  refine match_truthy (news_at lN' (List.Mem.head _)) rfl ?_
  k_steps
  unfold Hold
  (rename Fr _ _ _ _ => lF')
  refine meth_group (news_at lN' (List.Mem.head _)) rfl rfl ?_
  k_steps
  unfold Hold
  refine group_flags (B := a.length + 7) (e := a.length + 7 + (joinW ws).length) (news_at lN' (List.Mem.head _)) (news_at lN' (List.Mem.tail _ (List.Mem.head _))) (fr_at lF' hP) ⟨hT, lF'.keep⟩ (by rw [List.size_toArray]; omega) fun t' tk => ?_
  rw [z2]
  k_steps
  unfold Hold
  refine meth_split ?_
  k_steps
  unfold Hold
  refine call_split h.ok h.two h.few (fun x hx => Nat.le_trans (joinW_mem hx) (by have := h.short; simp only [List.length_append] at this; omega)) fun vs tk2 hv => ?_
  (rename Fr _ _ _ _ => lF'); (rename News _ _ _ _ => lN')
  have F3 := Fr.push lF' { cls := .type "list", data := .seq vs.toArray }
  have N3 := lN'.push lF' { cls := .type "list", data := .seq vs.toArray }
  clear lF' lN'
  k_steps
  unfold Hold
  (rename Fr _ _ _ _ => lF'); (rename News _ _ _ _ => lN')
  refine tuple_ofL lF' lN' ⟨_, (lN' _ (List.Mem.head _)).1, rfl, _, rfl⟩ (fun D h' F4 N4 hk => ?_) (by rw [hv.length, sizeLine_eq]; have := h.few; omega)
  clear lF' lN'
  k_steps
  exact hret _ _ _ ⟨D, _, rfl, News.fresh N4 (List.Mem.head _), News.get N4 (List.Mem.head _), vs, rfl, hv⟩ (fr_keep F4)
end Mine
end
section
open PySem PySem.W PyProof.Rows PySem.Spec PySem.Calls
namespace Mine
open Builtin
set_option maxRecDepth 100000
theorem two_turns {σ : Type} (B : Nat → σ → Sem (ForInStep σ)) (st st1 : σ) (n : Nat) (h1 : ∀ x, B x st = pure (.yield st1)) (h2 : ∀ x, B x st1 = pure (.done st1)) : forIn (List.range' 0 (n + 1)) st B = pure st1 := by
  rw [List.range'_succ, List.forIn_cons, h1]
  simp only [pure_bind]
  cases n with
  | zero => rfl
  | succ n =>
    rw [List.range'_succ, List.forIn_cons, h2]
    simp
theorem no_bad {a : Array Nat} (h : ∀ c ∈ a, c < 128) : a.findIdx? _codecs.asciiCodec.bad = none := by
  rw [Array.findIdx?_eq_none_iff]
  intro x hx
  have := h x hx
  show decide (x ≥ 128) = false
  exact decide_eq_false (by omega)
theorem fold_bytes (l : List Nat) : ∀ acc : Array UInt8, l.foldl (fun acc y => acc ++ (_codecs.asciiCodec.bytesOf y).toArray) acc = acc ++ (l.map fun c => c.toUInt8).toArray := by
  induction l with
  | nil => intro acc; simp
  | cons c r ih =>
    intro acc
    rw [List.foldl_cons, ih]
    apply Array.ext'
    simp [_codecs.asciiCodec]
theorem enc_eq (id : String) (self : Value) (s : Str) (h : ∀ c ∈ s.cps, c < 128) (hz : s.length ≤ sizeLine) : _codecs.encodeNarrow id _codecs.asciiCodec none self s = pure (s.cps.map fun c => c.toUInt8) := by
  unfold _codecs.encodeNarrow
  simp only [Std.Legacy.Range.forIn_eq_forIn_range']
  have hsz : [:s.length].size = s.cps.size := by simp [Std.Legacy.Range.size, Str.length]
  rw [hsz]
  have hz' : s.cps.size ≤ sizeLine := hz
  rcases Nat.eq_zero_or_pos s.cps.size with hn | hn
  · have he : s.cps = #[] := Array.eq_empty_of_size_eq_zero hn
    rw [hn, he, List.range'_zero, List.forIn_nil]
    simp
  · obtain ⟨n, hn'⟩ : ∃ n, s.cps.size = n + 1 := ⟨s.cps.size - 1, by omega⟩
    have hr : List.range' 0 s.cps.size = List.range' 0 (n + 1) := by rw [hn']
    rw [hr, two_turns _ _ (s.cps.size, s.cps.map (fun c => c.toUInt8), ({} : _codecs.Faults)) n]
    · rfl
    · intro x
      have h0 : ∃ c, s.cps[0]? = some c ∧ c < 128 := ⟨s.cps[0], by simp, h _ (Array.getElem_mem _)⟩
      obtain ⟨c, hc, hc'⟩ := h0
      have hb : _codecs.asciiCodec.bad c = false := decide_eq_false (by omega)
      have e1 : s.cps.extract 0 s.cps.size = s.cps := by simp
      have hf : Array.foldl (fun acc y => acc ++ (_codecs.asciiCodec.bytesOf y).toArray) #[] s.cps = s.cps.map fun c => c.toUInt8 := by
        rw [← Array.foldl_toList, fold_bytes]
        apply Array.ext'
        simp
      simp only [hc, hb, e1, no_bad h, Option.getD_none, Nat.zero_add, hf]
      simp
    · intro x
      have h0 : s.cps[s.cps.size]? = none := by simp
      simp only [h0]
      simp
      omega
end Mine
namespace Mine
open Builtin
theorem run_turns {σ : Type} (B : Nat → σ → Sem (ForInStep σ)) (f : Nat → σ) : ∀ (n i : Nat), (∀ k, i ≤ k → k < i + n → ∀ x, B x (f k) = pure (.yield (f (k + 1)))) → ∀ a, forIn (List.range' a n) (f i) B = pure (f (i + n))
  | 0, i, _, a => by rw [List.range'_zero, List.forIn_nil]; simp
  | n + 1, i, h, a => by
    rw [List.range'_succ, List.forIn_cons, h i (Nat.le_refl _) (by omega)]
    simp only [pure_bind]
    rw [run_turns B f n (i + 1) (fun k h1 h2 x => h k (by omega) (by omega) x) (a + 1)]
    rw [show i + 1 + n = i + (n + 1) by omega]
theorem dec_eq (id : String) (b : Array UInt8) (h : ∀ c ∈ b, c.toNat < 128) (hz : b.size ≤ sizeLine) : _codecs.runDecoder id _codecs.asciiDecoder none true b 0 [] = pure (b.map fun c => c.toNat, b.size) := by
  unfold _codecs.runDecoder
  simp only [Std.Legacy.Range.forIn_eq_forIn_range']
  have hsz : [:b.size].size = b.size := by simp [Std.Legacy.Range.size]
  rw [hsz]
  have key := run_turns (σ := Nat × Array Nat × _codecs.Faults)
  rw [show ((0 : Nat), (#[] : Array Nat), ({ held := [] } : _codecs.Faults)) = (fun k => (k, (b.extract 0 k).map (fun c => c.toNat), ({ held := [] } : _codecs.Faults))) 0 from by simp]
  rw [key _ (fun k => (k, (b.extract 0 k).map (fun c => c.toNat), ({ held := [] } : _codecs.Faults))) b.size 0]
  · simp
  · intro k _ hk x
    have hk' : k < b.size := by omega
    have h1 : ¬ ((b.extract 0 k).map (fun c => c.toNat)).size > sizeLine := by simp; omega
    have h2 : ¬ k ≥ b.size := by omega
    have hf : _codecs.asciiDecoder.find true b k = .char (b.getD k 0).toNat (k + 1) := by
      show (if (b.getD k 0).toNat < 128 then _ else _) = _
      rw [if_pos]
      have : b.getD k 0 = b[k] := by simp [Array.getD, hk']
      rw [this]
      exact h _ (Array.getElem_mem _)
    have e : (b.extract 0 (k + 1)).map (fun c => c.toNat) = (b.extract 0 k).map (fun c => c.toNat) ++ #[(b.getD k 0).toNat] := by
      have : b.getD k 0 = b[k] := by simp [Array.getD, hk']
      rw [this]
      apply Array.ext'
      simp [List.take_add_one, hk']
    simp only [h1, h2, hf, e, if_false, if_neg]
    rfl
end Mine
end
section
open PySem PySem.W PyProof.Rows PySem.Spec PySem.Calls
namespace Mine
open Builtin
set_option maxRecDepth 100000
theorem encodeRoad_ascii (id : String) (self : Value) (x : Str) : _codecs.encodeRoad id self x (Str.ofString "ascii") none = (do mkBytes (← _codecs.encodeNarrow id _codecs.asciiCodec none self x)) := by
  first | rfl | kernel_rfl
theorem encode_tree (x : Str) (t u : Tok) : «str.encode» ⟨[.str x t, .str (Str.ofString "ascii") u], []⟩ = (do ret (← _codecs.encodeRoad "str.encode" (.str x t) x (Str.ofString "ascii") none)) := by
  first | rfl | kernel_rfl
theorem gives_encode (x : Str) (t u : Tok) (h : ∀ c ∈ x.cps, c < 128) (hz : x.length ≤ sizeLine) : PySem.Gives («str.encode» ⟨[.str x t, .str (Str.ofString "ascii") u], []⟩) (.bytes (x.cps.map fun c => c.toUInt8)) := by
  rw [encode_tree, encodeRoad_ascii, enc_eq _ _ _ h hz]
  exact .of_eq rfl
theorem road_ascii {id : String} {b : Array UInt8} : _codecs.decodeRoad id b (PySem.Str.ofString "ascii") none [] = (_codecs.runDecoder id _codecs.asciiDecoder none true b 0 [] >>= fun r => mkStr ⟨r.1⟩) := by kernel_rfl
theorem decode_tree {c : UInt8} {cs : List UInt8} {t u : Tok} : «bytes.decode» ⟨[.bytes (c :: cs).toArray t, .str (Str.ofString "ascii") u], []⟩ = (mkStr (PySem.Str.ofString "utf-8") >>= fun _ => mkStr (PySem.Str.ofString "ascii") >>= fun e => mkStr (PySem.Str.ofString "bytes.decode") >>= fun d =>
    call (.builtin "_codecs.decode.text") [.bytes (c :: cs).toArray t, e, .none, d] >>= fun v => ret v) := by kernel_rfl
theorem meets_text {b : Array UInt8} {t t1 t2 : Tok} {d : PySem.Str} (h : ∀ c ∈ b, c.toNat < 128) (hz : b.size ≤ sizeLine) :
    Meets («_codecs.decode.text» ⟨[.bytes b t, .str (PySem.Str.ofString "ascii") t1, .none, .str d t2], []⟩) (fun _ R s => R (.ok (.ret (.str ⟨b.map fun c => c.toNat⟩ s.toks))) { s with toks := s.toks + 1 }) := by
  refine .of_wp fun prog w A R s h' => ?_
  show wpAny _ _ (Bytes.bytesLike _ (.bytes b t) >>= fun r => _) _ _ s
  refine wpAny_bind (wpAny_of_eq KBd.like_eq ?_)
  refine wpAny_bind (wpAny_of_eq KBd.held_eq ?_)
  show wpAny _ _ (_codecs.decodeRoad _ b (PySem.Str.ofString "ascii") none [] >>= fun v => _) _ _ s
  rw [road_ascii, dec_eq _ _ h hz]
  refine wpAny_bind (wpAny_bind (wpAny_pure ?_))
  exact wpAny_mkStr (wpAny_pure ⟨_, rfl, h'⟩) (by show (b.map _).size ≤ sizeLine; simpa using hz)
theorem meets_decode {c : UInt8} {cs : List UInt8} {t u : Tok} (h : ∀ c' ∈ (c :: cs).toArray, c'.toNat < 128) (hz : (c :: cs).toArray.size ≤ sizeLine) :
    Meets («bytes.decode» ⟨[.bytes (c :: cs).toArray t, .str (Str.ofString "ascii") u], []⟩) (fun _ R s => ∀ t' k, R (.ok (.ret (.str ⟨(c :: cs).toArray.map fun c => c.toNat⟩ t'))) { s with toks := k }) := by
  refine .of_wp fun prog w A R s h' => ?_
  rw [decode_tree]
  refine wpAny_bind (wpAny_mkStr ?_ (by decide))
  refine wpAny_bind (wpAny_mkStr ?_ (by decide))
  refine wpAny_bind (wpAny_mkStr ?_ (by decide))
  exact wpAny_bind (call_function_meets KBd.kind_text KBd.plain_text KBd.entry_text (KBd.args_text _ _ _ _) (meets_text h hz) (wpAny_pure ⟨_, rfl, h' _ _⟩))
theorem args_bytes_decode_2 (a b : Value) : argsOk "bytes.decode" ⟨[a, b], []⟩ := by
  unfold argsOk; rw [signature?_of (id := "bytes.decode") (n := ['e', 'd', 'o', 'c', 'e', 'd']) (o := ['s', 'e', 't', 'y', 'b']) (by kernel_rfl) FB.owner_bytes]; kernel_rfl
section
variable {prog : Program} {w : World} {A : Around} {E : Value → Shared → Prop} {s : Shared}
theorem call_encode {x : Str} {t u : Tok} {Q : Value → Shared → Prop} (h : ∀ c ∈ x.cps, c < 128) (hz : x.length ≤ sizeLine) (hq : Q (.bytes (x.cps.map fun c => c.toUInt8) s.toks) { s with toks := s.toks + 1 }) :
    wpAny (model prog w) A (call (.builtin "str.encode") [.str x t, .str (Str.ofString "ascii") u]) Q E s :=
  call_gives F.slot_str_encode rfl F.entry_str_encode (F.args_str_encode_2 _ _) (gives_encode x t u h hz) ⟨by show (x.cps.map _).size ≤ sizeLine; rw [Array.size_map]; exact hz, hq⟩
theorem meth_encode {M : Model} {x : Str} {t : Tok} {pl : Sem Bool} {Q : Value × List Value → Shared → Prop} (h : Q (.builtin "str.encode", [.str x t]) s) : wpAny M A (getMethod (.str x t) "encode" pl) Q E s :=
  getMethod_builtin (T := "str") rfl F.plainAttrs_str F.slot_str_encode F.type_str_encode (fun _ e => nomatch e) h
theorem call_decode {b : Array UInt8} {t u : Tok} {Q : Value → Shared → Prop} (hne : b ≠ #[]) (h : ∀ c ∈ b, c.toNat < 128) (hz : b.size ≤ sizeLine) (hq : ∀ t' k, Q (.str ⟨b.map fun c => c.toNat⟩ t') { s with toks := k }) :
    wpAny (model prog w) A (call (.builtin "bytes.decode") [.bytes b t, .str (Str.ofString "ascii") u]) Q E s := by
  obtain ⟨l⟩ := b
  cases l with
  | nil => exact absurd rfl hne
  | cons c cs => exact call_meets FB.slot_bytes_decode (typeIs_bytes _ _ _) FB.entry_bytes_decode (args_bytes_decode_2 _ _) (meets_decode h hz) hq
end
end Mine
end
section
open PySem PySem.W PySem.Spec PySem.Calls PyProof.Rows
namespace Mine
theorem decB_eq {l : List Nat} (h : ∀ c ∈ l, okS c) : (wB l).toArray.map (fun c => c.toNat) = l.toArray := by
  apply Array.ext'
  simp only [wB, List.map_toArray, List.map_map]
  have : ∀ c ∈ l, ((fun c : UInt8 => c.toNat) ∘ fun c : Nat => c.toUInt8) c = c := fun c hc => by
    have := h c hc
    unfold okS at this
    show c.toUInt8.toNat = c
    rw [Nat.toUInt8, UInt8.toNat_ofNat']
    omega
  rw [List.map_congr_left this]
  simp
theorem decB_lt {l : List Nat} (h : ∀ c ∈ l, okS c) : ∀ c ∈ (wB l).toArray, c.toNat < 128 := by
  intro c hc
  have hc : c ∈ wB l := by simpa using hc
  have := (wB_mem h c hc).2
  rw [UInt8.le_iff_toNat_le] at this
  have e : (58 : UInt8).toNat = 58 := rfl
  omega
theorem decB_ne {l : List Nat} (h : 0 < l.length) : (wB l).toArray ≠ #[] := by
  intro e
  have := congrArg Array.size e
  simp [wB] at this
  subst this
  exact absurd h (by decide)
theorem decB_sz {l : List Nat} (h : l.length ≤ 6) : (wB l).toArray.size ≤ sizeLine := by
  rw [List.size_toArray, wB_len, sizeLine_eq]; omega
def toldV (c w : Nat) : Int := if w / 4 = 2 then -(60 * (c : Int)) else 60 * (c : Int)
theorem tz_told (c w : Nat) (hc : c < 3600) (hw : w < 12) (x : Str) (t1 : Tok) (hx : x.cps = (drT c w).toArray) : Ct 2 44 [.str x t1] (fun r _ _ => ∃ tk, r = .int (toldV c w) tk) := by
  have h := tzc (w / 4) (w % 2) (hsL c w) (msL c) x t1 (drT_ok c w hc hw) hx
  rw [drT_val c w hc] at h
  exact h
def exV (c : Nat) : Int := 3600 * ((c % 60 : Nat) : Int) + 60 * ((10 * (c / 600) + c / 60 % 10 : Nat) : Int)
theorem tz_ex (c : Nat) (hc : c < 3600) (x : Str) (t1 : Tok) (hx : x.cps = (exT c).toArray) : Ct 2 44 [.str x t1] (fun r _ _ => ∃ tk, r = .int (exV c) tk) := by
  have h := tzc 0 0 (msL c) [48 + c / 600, 48 + c / 60 % 10] x t1 (exT_ok c hc) hx
  rw [exT_val c] at h
  exact h
theorem w_at {vs : List Value} {g : Nat → List Nat} {n : Nat} (h : BytesAre vs (((List.range n).map g).map wB)) {i : Nat} {v : Value} (hi : i < vs.length) (hv : vs[i]? = some v) : i < n ∧ ∃ t, v = .bytes (wB (g i)).toArray t := by
  have hl := h.length
  rw [List.length_map, List.length_map, List.length_range] at hl
  have hn : i < n := by omega
  obtain ⟨t, e⟩ := bytes_at h (k := i) (by rw [List.length_map, List.length_map, List.length_range]; exact hn)
  rw [hv] at e
  injection e with e
  refine ⟨hn, t, ?_⟩
  rw [e]
  simp [List.getD, hn]
theorem pf_plain {ws : List (List Nat)} (t1 : Tok) (h : WOk ws) (h2 : 2 ≤ ws.length) (h1 : ws.length ≤ 1000) : Ct 2 70 [.bytes (plainL ws).toArray t1] (Gives fun o => ∃ vs, o = tupObj vs ∧ BytesAre vs (ws.map wB)) :=
  pflags [42, 32] [] (ws.map wB) (plainL ws) t1 (plain_tx h h2 h1) rfl
theorem pf_answer {ws es : List (List Nat)} (t1 : Tok) (hw : WOk ws) (hn : ws.length ≤ 1000) (h : WOk es) (h2 : 2 ≤ es.length) (h1 : es.length ≤ 1000) : Ct 2 70 [.bytes (answerL ws es).toArray t1] (Gives fun o => ∃ vs, o = tupObj vs ∧ BytesAre vs (es.map wB)) :=
  pflags (plainL ws ++ permB) [93] (es.map wB) (answerL ws es) t1 (answer_tx hw hn h h2 h1) rfl
theorem dr_two {p : Int} (z a : Int) (hp : p = 23 ∨ p = 47 ∨ p = 19) : 2 ≤ (drW p z a ((p - 1) / 2).toNat).length := by rw [drW_len]; exact half_two hp
theorem dr_1000 {p : Int} (z a : Int) (hp : p = 23 ∨ p = 47 ∨ p = 19) : (drW p z a ((p - 1) / 2).toNat).length ≤ 1000 := by
  have := half_lt hp
  rw [drW_len]; omega
theorem ex_2 {p : Int} (z : Int) (hp : p = 23 ∨ p = 47 ∨ p = 19) : 2 ≤ (exW p z ((p - 1) / 2).toNat).length := by rw [exW_len]; exact half_two hp
theorem ex_1000 {p : Int} (z : Int) (hp : p = 23 ∨ p = 47 ∨ p = 19) : (exW p z ((p - 1) / 2).toNat).length ≤ 1000 := by
  have := half_lt hp
  rw [exW_len]; omega
theorem len_line {vs : List Value} {ws : List (List Nat)} (h : BytesAre vs (ws.map wB)) (hn : ws.length ≤ 1000) : vs.length ≤ sizeLine := by
  have := h.length
  rw [List.length_map] at this
  rw [sizeLine_eq]; omega
theorem meth_bdecode {M : Model} {A : Around} {E : Value → Shared → Prop} {s : Shared} {b : Array UInt8} {t : Tok} {pl : Sem Bool} {Q : Value × List Value → Shared → Prop} (h : Q (.builtin "bytes.decode", [.bytes b t]) s) : wpAny M A (getMethod (.bytes b t) "decode" pl) Q E s :=
  KBd.method h
def toldL (p z a : Int) (n : Nat) : List Int := (List.range n).map fun i => toldV (cN p z i) (wN a i)
def exL (p z : Int) (n : Nat) : List Int := (List.range n).map fun i => exV (cN p z i)
theorem toldL_len (p z a : Int) (n : Nat) : (toldL p z a n).length = n := by simp [toldL]
theorem exL_len (p z : Int) (n : Nat) : (exL p z n).length = n := by simp [exL]
theorem told_are {vs ys : List Value} {p z a : Int} {n : Nat} (hv : BytesAre vs ((drW p z a n).map wB)) (hl : ys.length = vs.length) (h : ∀ i, i < vs.length → ∃ y, ys[i]? = some y ∧ ∃ t, y = .int (toldV (cN p z i) (wN a i)) t) : IntsAre ys (toldL p z a n) := by
  have e := hv.length
  rw [List.length_map, drW_len] at e
  rw [e] at h hl
  exact ints_of hl h
theorem ex_are {vs ys : List Value} {p z : Int} {n : Nat} (hv : BytesAre vs ((exW p z n).map wB)) (hl : ys.length = vs.length) (h : ∀ i, i < vs.length → ∃ y, ys[i]? = some y ∧ ∃ t, y = .int (exV (cN p z i)) t) : IntsAre ys (exL p z n) := by
  have e := hv.length
  rw [List.length_map, exW_len] at e
  rw [e] at h hl
  exact ints_of hl h
theorem news_told {h₀ h : Heap} {L : Addr} {a b c d e f : Addr × Obj} (N : News h₀ L h [a, b, c, d, e, f]) : News h₀ L h [a, c, d, f] := fun p hp => N p (by
  simp only [List.mem_cons, List.not_mem_nil, or_false] at hp ⊢
  rcases hp with h | h | h | h <;> simp [h])
theorem news_ex {h₀ h : Heap} {L : Addr} {a b : Addr × Obj} {r : List (Addr × Obj)} (N : News h₀ L h (a :: b :: r)) : News h₀ L h (a :: r) := fun p hp => N p (by
  simp only [List.mem_cons] at hp ⊢
  rcases hp with h | h
  · exact .inl h
  · exact .inr (.inr h))
end Mine
end
section
open PySem PySem.W PyProof.Rows PySem.Spec PySem.Calls
namespace Mine
section
variable {prog : Program} {w : World} {A : Around} {E : Value → Shared → Prop} {s : Shared} {env : Env} {h₀ : Heap} {x : Str} {body : List Stmt} {Q : Flow → Shared → Prop}
/-- a loop over a list of ints of the ledger whose turns change nothing -/
theorem loop_look {l : Addr} {vs : List Value} {ns : List Int} {nn : Nat} {m₀ : Str → Option Value} {news : List (Addr × Obj)}
    (hh : A.handled = none) (hl : (l, listOf vs.toArray nn) ∈ news) (hi : IntsAre vs ns) (F : Fr h₀ env.locals s.heap m₀) (N : News h₀ env.locals s.heap news)
    (turn : ∀ (n : Int) t (u : Str → Option Value) h tk own, OwnOff own (news.map (·.1)) →
      Fr h₀ env.locals h (fun y => if y = x then some (.int n t) else m₀ y) → News h₀ env.locals h (news ++ own) →
      wpAny (model prog w) A (execs body env) (InvPostN h₀ env.locals (fun m' nx => nx = news ∧ ∀ z, z ≠ x → m' z = m₀ z) own (news.map (·.1)) { s with heap := h, toks := tk } Q) E { s with heap := h, toks := tk })
    (done : ∀ (u : Str → Option Value) h tk, Fr h₀ env.locals h (fun y => if y = x then u y else m₀ y) → News h₀ env.locals h news → Q .next { s with heap := h, toks := tk }) :
    wpAny (model prog w) A (pyIter (.ref l)) (fun it s₂ => LoopAtV prog w A h₀ env x body Q E it s₂) E s := by
  have em : ∀ (u : Str → Option Value), (fun z => if ([] : List Str).contains z then u z else m₀ z) = m₀ := fun u => by funext z; rfl
  refine kst_listL (σ := Unit) (fun _ => news) (fun _ => []) (fun _ => True) [] (fun _ _ => True) () hh (fun _ => hl) hi F N trivial (fun p hp => by cases hp) trivial ?_ ?_
  · intro c pre post n t u h tk own _ _ hoff _ _ F' N'
    have F'' : Fr h₀ env.locals h (fun y => if y = x then some (.int n t) else m₀ y) := F'
    refine wpAny_mono (turn n t u h tk own hoff F'' N') (fun f s₂ p => ?_) fun _ _ e => e
    have up : InvEndN h₀ env.locals (fun m' nx => nx = news ∧ ∀ z, z ≠ x → m' z = m₀ z) own (news.map (·.1)) { s with heap := h, toks := tk } s₂ →
        InvEndN h₀ env.locals (KstS (fun _ : Unit => news) (fun _ => []) (fun _ => True) x [] m₀ (fun _ _ => True) (pre ++ [n])) own (news.map (·.1)) { s with heap := h, toks := tk } s₂ := by
      rintro ⟨h', tk', m', news', nx', e', F', N', hn', ho', ha, hS1, hS2⟩
      exact ⟨h', tk', m', news', nx', e', F', N', hn', ho', ha, (), hS1, trivial, (fun p hp => by cases hp), (fun z h1 _ _ => hS2 z h1), trivial⟩
    cases f with
    | ret v => exact p
    | brk => exact p
    | next => exact up p
    | cont => exact up p
  · intro c u h tk _ _ F' N'
    exact done u h tk F' N'
theorem look_end {h₀ h' : Heap} {L : Addr} {m' m₀ : Str → Option Value} {news own : List (Addr × Obj)} {x : Str} {s₁ : Shared} {tk : Nat} (F : Fr h₀ L h' m') (N : News h₀ L h' (news ++ own)) (same : ∀ z, z ≠ x → m' z = m₀ z) :
    InvEndN h₀ L (fun m' nx => nx = news ∧ ∀ z, z ≠ x → m' z = m₀ z) own (news.map (·.1)) s₁ { s₁ with heap := h', toks := tk } :=
  InvEndN.intro F N ⟨rfl, same⟩ rfl (fun p h => List.mem_append.mpr (.inl h)) (fun p h => List.mem_append.mpr (.inr h))
end
theorem half_int {p : Int} (hp : p = 23 ∨ p = 47 ∨ p = 19) : ((((p - 1) / 2).toNat : Nat) : Int) = (p - 1).fdiv 2 := by rcases hp with rfl | rfl | rfl <;> decide
theorem len_half {n : Nat} {p : Int} (hp : p = 23 ∨ p = 47 ∨ p = 19) (h : n = ((p - 1) / 2).toNat) : (n : Int) = (p - 1).fdiv 2 := by rw [h]; exact half_int hp
theorem fit47 {n m : Nat} (h : n = m) (hm : m < 47) : ((n : Nat) : Int) < 2 ^ 63 := by omega
theorem ne_same {prog : Program} {w : World} {A : Around} {E : Value → Shared → Prop} {s : Shared} {a : Int} {t u : Tok} {Q : Value → Shared → Prop} (h : Q (.bool false) s) : wpAny (model prog w) A (compareOp .NotEq (.int a t) (.int a u)) Q E s :=
  IsLeap.wpAny_ne_int (by rw [bne_self_eq_false]; exact h)
end Mine
end
section
open PySem PySem.W PyProof.Rows PySem.Spec PySem.Calls
namespace Mine
def zs (st p z : Int) : Nat → Int
  | 0 => z
  | n + 1 => (st * zs st p z n).fmod p
def fg (la st p z : Int) : Nat → List Int
  | 0 => []
  | n + 1 => fg la st p z n ++ [(la * zs st p z n).fmod 60]
theorem fg_len (la st p z : Int) : ∀ n, (fg la st p z n).length = n
  | 0 => rfl
  | n + 1 => by simp [fg, fg_len]
/-- what holds of the loop -/
def BW (la st p z : Int) (pre : List Int) (zz : Int) (fs : List Int) : Prop := zz = zs st p z pre.length ∧ fs = fg la st p z pre.length ∧ fs.length = pre.length ∧ 0 ≤ zz ∧ zz < p
theorem bw_start {la st p z : Int} (h0 : 0 ≤ z) (h1 : z < p) : BW la st p z [] z [] := ⟨rfl, rfl, rfl, h0, h1⟩
theorem bw_turn {la st p z zz k : Int} {pre fs : List Int} (h : BW la st p z pre zz fs) :
    BW la st p z (pre ++ [k]) ((st * zz).fmod p) (fs ++ [(la * zz).fmod 60]) := by
  obtain ⟨h1, h2, h3, h4, h5⟩ := h
  have e : (pre ++ [k]).length = pre.length + 1 := by simp
  unfold BW
  rw [e]
  refine ⟨?_, ?_, ?_, ?_, ?_⟩
  · rw [h1]; rfl
  · rw [h1, h2]; rfl
  · simp [h3]
  · rw [Int.fmod_eq_emod_of_nonneg _ (by omega)]; exact Int.emod_nonneg _ (by omega)
  · rw [Int.fmod_eq_emod_of_nonneg _ (by omega)]; exact Int.emod_lt_of_pos _ (by omega)
theorem bw_len {la st p z zz : Int} {pre fs : List Int} (h : BW la st p z pre zz fs) : fs.length = pre.length := h.2.2.1
theorem bw_rng {la st p z zz : Int} {pre fs : List Int} (h : BW la st p z pre zz fs) : 0 ≤ zz ∧ zz < p := h.2.2.2
theorem bw_fs {la st p z zz : Int} {pre fs : List Int} (h : BW la st p z pre zz fs) : fs = fg la st p z pre.length := h.2.1
end Mine
namespace Mine
def lav (p : Int) : Int := if p = 23 then 13 else if p = 47 then 37 else 41
def stv (p : Int) : Int := if p = 23 then 5 else if p = 47 then 29 else 13
theorem lav_rng (p : Int) : 0 ≤ lav p ∧ lav p < 60 := by unfold lav; (repeat' split) <;> decide
theorem stv_rng (p : Int) : 0 ≤ stv p ∧ stv p < 60 := by unfold stv; (repeat' split) <;> decide
theorem la_list {p : Int} (hp : p = 23 ∨ p = 47 ∨ p = 19) : List.foldl (fun l' k' => if (k' * p).fmod 60 = 59 then l' ++ [k'] else l') [] (rangeKs 0 (60 - 0 : Int).toNat) = [lav p] := by
  rcases hp with rfl | rfl | rfl <;> decide +kernel
theorem st_list {p : Int} (hp : p = 23 ∨ p = 47 ∨ p = 19) : List.foldl (fun l' k' => if (60 * k').fmod p = 1 then l' ++ [k'] else l') [] (rangeKs 0 (p - 0).toNat) = [stv p] := by
  rcases hp with rfl | rfl | rfl <;> decide +kernel
section
variable {prog : Program} {w : World} {A : Around} {E : Value → Shared → Prop} {s : Shared} {h₀ : Heap} {L : Addr} {news : List (Addr × Obj)}
theorem item0_of {value slice : PySem.Expr} {D : Addr} {ys : List Value} {ns : List Int} {v : Int} {u : Tok} {Q : Value → Shared → Prop}
    (N : News h₀ L s.heap news) (hm : (D, LCg.lst ys) ∈ news) (hi : IntsAre ys ns) (e : ns = [v]) (h : ∀ t, Q (.int v t) s)
    (hs : subscripted slice false (.ref D) (.int 0 u) = operate [.ref D, .int 0 u] (getItem (.ref D) (.int 0 u)) := by with_unfolding_all rfl) :
    wpAny (model prog w) A (subscriptTail value slice (.ref D) (.int 0 u)) Q E s := by
  subst e
  cases hi with
  | cons _ t r =>
    cases r
    have hl : s.heap.IsList D [Value.int v t].toArray := ⟨_, (N _ hm).1, rfl, _, rfl⟩
    exact tail_any hl.typeIs slot_list_getitem.lookup (wpAny_getItem_list hl (by decide) (by decide) (by rfl) (h t)) hs
end
end Mine
namespace Mine
theorem bw_idx {p : Int} {i : Nat} {fs : List Int} (hp : p = 23 ∨ p = 47 ∨ p = 19) (hi : i < ((p - 1) / 2).toNat) (hl : fs.length = (p - 1 - 0).toNat) :
    0 ≤ p - 3 + (i : Int) * -2 ∧ p - 3 + (i : Int) * -2 < (fs.length : Int) ∧ 0 ≤ p - 3 + (i : Int) * -2 + 1 ∧ p - 3 + (i : Int) * -2 + 1 < (fs.length : Int) ∧ fs.length < 2 ^ 62 := by
  rw [hl]
  rcases hp with rfl | rfl | rfl <;> omega
end Mine
namespace Mine
/-- what _law_backwards answers -/
def bwList (p z : Int) : List Int := (List.range ((p - 1) / 2).toNat).map fun (i : Nat) =>
  60 * (60 * (fg (lav p) (stv p) p z (p - 1 - 0).toNat).getD (p - 3 + (i : Int) * -2).toNat 0 + (fg (lav p) (stv p) p z (p - 1 - 0).toNat).getD (p - 3 + (i : Int) * -2 + 1).toNat 0)
end Mine
namespace Mine
theorem lav_abs (p : Int) : (lav p).natAbs < 2 ^ 64 := by
  have := lav_rng p
  omega
theorem stv_abs (p : Int) : (stv p).natAbs < 2 ^ 64 := by
  have := stv_rng p
  omega
theorem prime_abs {p : Int} (hp : p = 23 ∨ p = 47 ∨ p = 19) : p.natAbs < 2 ^ 64 := by rcases hp with rfl | rfl | rfl <;> decide
section
variable {prog : Program} {w : World} {A : Around} {E : Value → Shared → Prop} {s : Shared} {a b : Int} {t u : Tok} {Q : Value → Shared → Prop}
theorem mul_l (ha : a.natAbs < 2 ^ 64) (h : Q (.int (a * b) s.toks) { s with toks := s.toks + 1 }) : wpAny (model prog w) A (binaryOp .Mult (.int a t) (.int b u)) Q E s :=
  PyProof.Rows.mul_int h (IntMulOk.of_left (intBits_le ha))
theorem mul_r (hb : b.natAbs < 2 ^ 64) (h : Q (.int (a * b) s.toks) { s with toks := s.toks + 1 }) : wpAny (model prog w) A (binaryOp .Mult (.int a t) (.int b u)) Q E s :=
  PyProof.Rows.mul_int h (IntMulOk.of_right (intBits_le hb))
end
theorem p_ge {p : Int} (hp : p = 23 ∨ p = 47 ∨ p = 19) : 19 ≤ p := by rcases hp with rfl | rfl | rfl <;> decide
theorem p_le {p : Int} (hp : p = 23 ∨ p = 47 ∨ p = 19) : p ≤ 47 := by rcases hp with rfl | rfl | rfl <;> decide
end Mine
end
section
open PySem PySem.W PySem.Spec PySem.Calls PyProof.Rows
namespace Mine
/-- how many forms: by the three primes -/
def fm (p : Int) : Int := if p = 23 then 3 else if p = 47 then 5 else 1
theorem fk1 {p : Int} (hp : p = 23 ∨ p = 47 ∨ p = 19) : ¬ 4 * (3 + ((0 : Nat) : Int)) * (3 * 3 + p).fdiv (4 * (3 + ((0 : Nat) : Int))) = 3 * 3 + p := by
  rcases hp with rfl | rfl | rfl <;> decide
theorem gval {p : Int} (hp : p = 23 ∨ p = 47 ∨ p = 19) : List.foldl
    (fun a' k' =>
      if 4 * k' * (1 * 1 + p).fdiv (4 * k') = 1 * 1 + p ∧ k' ≤ (1 * 1 + p).fdiv (4 * k') ∧ k' = 1 then a' + 1
      else
        if 4 * k' * (1 * 1 + p).fdiv (4 * k') = 1 * 1 + p ∧ k' ≤ (1 * 1 + p).fdiv (4 * k') ∧ ¬k' = 1 ∧ ¬k' = (1 * 1 + p).fdiv (4 * k') then a' + 2
        else
          if 4 * k' * (1 * 1 + p).fdiv (4 * k') = 1 * 1 + p ∧ ¬k' ≤ (1 * 1 + p).fdiv (4 * k') then a'
          else if ¬4 * k' * (1 * 1 + p).fdiv (4 * k') = 1 * 1 + p then a' else a')
    0 (rangeKs 1 (5 - 1 : Int).toNat) = fm p := by
  rcases hp with rfl | rfl | rfl <;> decide +kernel
set_option maxRecDepth 100000 in
set_option maxHeartbeats 4000000 in
theorem forms (p : Int) (t : Tok) (hp : p = 23 ∨ p = 47 ∨ p = 19) : Ct 2 84 [.int p t] (fun r _ _ => ∃ tk, r = .int (fm p) tk) := by
  w_top off
  k_with_none
  delta Ct KK VW LS PG ar
  k_fill
  intro w mean mg mb dp un fr gd s Q E X T hd hu hret
  refine wpAny_call ?_
  k_dflt (refine' enterP ?k1 ?k2 ?k3 ?k4 ?k5 ?k6 ?k7 ?_ ?c1 ?c2 ?c3 ?c4; (case k1 => exact X); (case k2 => exact T); (case k3 => k_is); (case k4 => k_is); (case k5 => dsimp only; omega); (case k6 => exact BindsTo.of_eq rfl); (case k7 => exact locs rfl); (case c1 => exact rfl); (case c2 => exact rfl); (case c3 => exact rfl); (case c4 => decide))
  intro L' h₁ hL F'
  have N' : News s.heap L' h₁ [] := News.nil
  try dsimp only
  have hp1 : 19 ≤ p := by omega
  have hp2 : p ≤ 47 := by omega
  replace hp := hold_in hp
  (k_with "exec For Name Call cons nil" => kpr_for)
  (k_with "pyIter ref" => kpr_short)
  k_steps
  · exact absurd (by assumption) (fk1 hp)
  all_goals exact hret _ _ _ ⟨_, congrArg (fun x => Value.int x _) (gval hp)⟩ (fr_keep (by assumption))
end Mine
end
section
open PySem PySem.W PySem.Spec PySem.Calls PyProof.Rows
namespace Mine
local macro_rules | `(tactic| ktr_room) => `(tactic| first | ((try simp only [depth_deeper, depth_in1] at *); (try dsimp only at *); omega))

local macro_rules | `(tactic| walk_at "call ref") => `(tactic| (k_here; (with_unfolding_all refine' Ct.use (forms _ _ ?a1) ?kF ?kX ?kN ?kT ?kd ?ku ?_); (case a1 => assumption); (case kF => k_asm); (case kX => k_asm); (case kN => k_asm); (case kT => k_asm); (case kd => ktr_room); (case ku => ktr_units); (intro r h' tk' hR F' N'; obtain ⟨t7, hE⟩ := hR; subst hE); (try dsimp only)))
set_option maxRecDepth 100000 in
set_option maxHeartbeats 8000000 in
theorem signed (z p : Int) (t1 t2 : Tok) (hp : p = 23 ∨ p = 47 ∨ p = 19) : Ct 5 89 [.int z t1, .int p t2] (fun r _ _ => ∃ tk, r = .int (if List.foldl (fun l k => if (k * k).fmod p = z then l ++ [k] else l) [] (rangeKs 1 (p - 1).toNat) = [] then - fm p else fm p) tk) := by
  w_top off
  k_with_none
  delta Ct KK VW LS PG ar
  k_fill
  intro w mean mg mb dp un fr gd s Q E X T hd hu hret
  refine wpAny_call ?_
  k_dflt (refine' enterC ?k1 ?k2 ?k3 ?k4 ?k5 ?k6 ?k7 ?k8 ?_ ?c1 ?c2 ?c3; (case k1 => exact X); (case k2 => exact T); (case k3 => k_is); (case k4 => k_is); (case k5 => dsimp only; omega); (case k6 => exact BindsTo.of_eq rfl); (case k7 => exact rfl); (case k8 => decide +kernel); (case c1 => exact rfl); (case c2 => exact rfl); (case c3 => exact rfl))
  intro L' h₁ tk₁ cells hL F' N' Y'
  k_cells Y'
  try simp only [List.cons_append, List.nil_append] at N'
  try dsimp only
  have hpl := p_ge hp
  have hpu := p_le hp
  replace hp := hold_in hp
  k_steps
  all_goals first
    | exact hret _ _ _ ⟨_, congrArg (fun x => Value.int x _) (if_pos (of_decide_eq_true (by assumption))).symm⟩ (fr_keep (by assumption))
    | exact hret _ _ _ ⟨_, congrArg (fun x => Value.int x _) (if_neg (of_decide_eq_false (by assumption))).symm⟩ (fr_keep (by assumption))
end Mine
end
section
open PySem PySem.W PySem.Spec PySem.Calls PyProof.Rows
namespace Mine
theorem ex_back {p z : Int} (hp : p = 23 ∨ p = 47 ∨ p = 19) (h0 : 1 ≤ z) (h1 : z < p) : bwList p z = exL p z ((p - 1) / 2).toNat := by
  obtain ⟨n, rfl⟩ := Int.eq_ofNat_of_zero_le (show 0 ≤ z by omega)
  have key1 : ∀ n < 23, 1 ≤ n → bwList 23 (n : Nat) = exL 23 (n : Nat) 11 := by decide +kernel
  have key2 : ∀ n < 47, 1 ≤ n → bwList 47 (n : Nat) = exL 47 (n : Nat) 23 := by decide +kernel
  have key3 : ∀ n < 19, 1 ≤ n → bwList 19 (n : Nat) = exL 19 (n : Nat) 9 := by decide +kernel
  rcases hp with rfl | rfl | rfl
  · exact key1 n (by omega) (by omega)
  · exact key2 n (by omega) (by omega)
  · exact key3 n (by omega) (by omega)
/-- the told clocks, signs off -/
def bareL (p z : Int) (n : Nat) : List Int := (List.range n).map fun i => 60 * (cN p z i : Int)
def hsign (z p : Int) : Int := if List.foldl (fun l k => if (k * k).fmod p = z then l ++ [k] else l) [] (rangeKs 1 (p - 1).toNat) = [] then - fm p else fm p
theorem class_law {p z : Int} (hp : p = 23 ∨ p = 47 ∨ p = 19) (h0 : 1 ≤ z) (h1 : z < p) : 2 * (bareL p z ((p - 1) / 2).toNat).sum = 60 * 3599 * ((p - 1).fdiv 2 - hsign z p) := by
  obtain ⟨n, rfl⟩ := Int.eq_ofNat_of_zero_le (show 0 ≤ z by omega)
  have key1 : ∀ n < 23, 1 ≤ n → 2 * (bareL 23 (n : Nat) 11).sum = 60 * 3599 * (11 - hsign (n : Nat) 23) := by decide +kernel
  have key2 : ∀ n < 47, 1 ≤ n → 2 * (bareL 47 (n : Nat) 23).sum = 60 * 3599 * (23 - hsign (n : Nat) 47) := by decide +kernel
  have key3 : ∀ n < 19, 1 ≤ n → 2 * (bareL 19 (n : Nat) 9).sum = 60 * 3599 * (9 - hsign (n : Nat) 19) := by decide +kernel
  rcases hp with rfl | rfl | rfl
  · exact key1 n (by omega) (by omega)
  · exact key2 n (by omega) (by omega)
  · exact key3 n (by omega) (by omega)
end Mine
namespace Mine
theorem toldL_get (p z a : Int) {n i : Nat} (hi : i < n) : (toldL p z a n).getD i 0 = toldV (cN p z i) (wN a i) := by simp [toldL, List.getD, hi]
theorem bare_neg {p z a : Int} {n i : Nat} (hi : i < n) (h : 7 < (wayL a n).getD (0 + (i : Int) * 1).toNat 0) : -((toldL p z a n).getD (0 + (i : Int) * 1).toNat 0) = 60 * (cN p z i : Int) := by
  rw [nat_ix] at h ⊢
  rw [wayL_get a hi, ← wN_eq] at h
  rw [toldL_get p z a hi]
  have hw := wN_lt a i
  unfold toldV
  rw [if_pos (by omega)]
  omega
theorem bare_pos {p z a : Int} {n i : Nat} (hi : i < n) (h : ¬ 7 < (wayL a n).getD (0 + (i : Int) * 1).toNat 0) : (toldL p z a n).getD (0 + (i : Int) * 1).toNat 0 = 60 * (cN p z i : Int) := by
  rw [nat_ix] at h ⊢
  rw [wayL_get a hi, ← wN_eq] at h
  rw [toldL_get p z a hi]
  unfold toldV
  rw [if_neg (by omega)]
theorem bare_are {ys : List Value} {p z : Int} {n : Nat} (hl : ys.length = n) (h : ∀ i, i < n → ∃ y, ys[i]? = some y ∧ ∃ t, y = .int (60 * (cN p z i : Int)) t) : IntsAre ys (bareL p z n) := ints_of hl h
end Mine
namespace Mine
theorem hsign_rng {z p : Int} (hp : p = 23 ∨ p = 47 ∨ p = 19) : -5 ≤ hsign z p ∧ hsign z p ≤ 5 := by
  have h : fm p = 3 ∨ fm p = 5 ∨ fm p = 1 := by
    rcases hp with rfl | rfl | rfl
    · exact .inl (by decide)
    · exact .inr (.inl (by decide))
    · exact .inr (.inr (by decide))
  unfold hsign
  split <;> omega
theorem signedH (z p : Int) (t1 t2 : Tok) (hp : p = 23 ∨ p = 47 ∨ p = 19) : Ct 5 89 [.int z t1, .int p t2] (fun r _ _ => ∃ tk, r = .int (hsign z p) tk) := signed z p t1 t2 hp
end Mine
end
section
open PySem PySem.W PyProof.Rows PySem.Spec PySem.Calls
namespace Mine
section
variable {prog : Program} {w : World} {A : Around} {E : Value → Shared → Prop} {s : Shared} {env : Env} {h₀ : Heap} {x : Str} {body : List Stmt} {Q : Flow → Shared → Prop}
/-- a loop over range(n) that turns one int name y and one list of ints (the newest object), which the frame need not name -/
theorem loop_ints {r : Addr} {b₀ : Int} {t₀ u₀ v₀ : Tok} {n : Nat} {m₀ : Str → Option Value} {a : Addr} {rest : List (Addr × Obj)} {y : Str} {z₀ : Int} {tz₀ : Tok} {c₀ : Nat} (stored : List Str) (P : List Int → Int → List Int → Prop)
    (hh : A.handled = none) (hr : IsRange s.heap r 0 b₀ 1 t₀ u₀ v₀) (hsmall : Builtin.Range.small 0 b₀ 1 = true) (hn : Builtin.Range.rangeSize 0 b₀ 1 = (n : Int)) (F : Fr h₀ env.locals s.heap m₀) (N : News h₀ env.locals s.heap ((a, listOf #[] c₀) :: rest)) (hy : m₀ y = some (.int z₀ tz₀)) (hp : P [] z₀ [])
    (turn : ∀ (zz : Int) (tz : Tok) (vs : List Value) (fs : List Int) (cn : Nat) (pre : List Int) (k : Int) t (u : Str → Option Value) h tk own, k = 0 + (pre.length : Int) → pre.length < n → OwnOff own (a :: rest.map (·.1)) → IntsAre vs fs → P pre zz fs →
      Fr h₀ env.locals h (fun z => if z = x then some (.int k t) else if z = y then some (.int zz tz) else if stored.contains z then u z else m₀ z) → News h₀ env.locals h ((a, listOf vs.toArray cn) :: rest ++ own) →
      wpAny (model prog w) A (execs body env) (InvPostN h₀ env.locals (KstS (fun c : Int × Nat × List Value × List Int × Nat => (a, listOf c.2.2.1.toArray c.2.2.2.2) :: rest) (fun c => [(y, .int c.1 c.2.1)]) (fun c => IntsAre c.2.2.1 c.2.2.2.1) x stored m₀ (fun pre c => P pre c.1 c.2.2.2.1) (pre ++ [k])) own (a :: rest.map (·.1)) { s with heap := h, toks := tk } Q) E { s with heap := h, toks := tk })
    (done : ∀ (zz : Int) (tz : Tok) (vs : List Value) (fs : List Int) (cn : Nat) (u : Str → Option Value) h tk, IntsAre vs fs → P (rangeKs 0 n) zz fs → Fr h₀ env.locals h (fun z => if z = x then u z else if z = y then some (.int zz tz) else if stored.contains z then u z else m₀ z) → News h₀ env.locals h ((a, listOf vs.toArray cn) :: rest) → Q .next { s with heap := h, toks := tk }) :
    wpAny (model prog w) A (pyIter (.ref r)) (fun it s₂ => LoopAtV prog w A h₀ env x body Q E it s₂) E s :=
  kst_range (σ := Int × Nat × List Value × List Int × Nat) (fun c => (a, listOf c.2.2.1.toArray c.2.2.2.2) :: rest) (fun c => [(y, .int c.1 c.2.1)]) (fun c => IntsAre c.2.2.1 c.2.2.2.1) stored (fun pre c => P pre c.1 c.2.2.2.1) (z₀, tz₀, [], [], c₀)
    hh hr hsmall hn F N .nil (fun p hp' => by rw [List.mem_singleton.mp hp']; exact hy) hp
    (fun c pre k t u h tk own e hl ho hf hp' F' N' => turn c.1 c.2.1 c.2.2.1 c.2.2.2.1 c.2.2.2.2 pre k t u h tk own e hl ho hf hp' F' N')
    (fun c u h tk hf hp' F' N' => done c.1 c.2.1 c.2.2.1 c.2.2.2.1 c.2.2.2.2 u h tk hf hp' F' N')
end
end Mine
end
section
open PySem PySem.W PySem.Spec PySem.Calls PyProof.Rows
namespace Mine

local macro_rules | `(tactic| walk_at "pyIter ref") => `(tactic| (k_here; refine Mine.hold_in ?_))
local macro_rules | `(tactic| walk_at "subscriptTail") => `(tactic| (k_here; (with_reducible show wpAny _ _ (subscriptTail _ _ (Value.ref _) (Value.int 0 _)) _ _ _); (with_unfolding_all refine' item0_of ?iN ?im (by assumption) ?ie ?_ ?is); (case iN => k_asm); (case im => k_mem); (case ie => first | exact la_list (by assumption) | exact st_list (by assumption)); (case is => with_unfolding_all rfl); (intro tq)))
local macro_rules | `(tactic| walk_at "eval ListComp") => `(tactic| (k_here; (with_reducible show wpAny _ _ (eval (PySem.Expr.ListComp _ [⟨_, _, [], _⟩] _ _) _) _ _ _); k_dflt (refine ListComp_W (by k_asm) (by with_unfolding_all rfl) (by decide) (by rfl) (by decide) (by rfl) ?_)))
local macro_rules | `(tactic| walk_at "subscriptTail Name Name ref int") => `(tactic| (k_here; (rename LCg.NsObj _ _ => nsX); (with_reducible show wpAny _ _ (subscriptTail _ _ (Value.ref _) (Value.int _ _)) _ _ _); (with_unfolding_all refine' item_of ?iN ?im ?ii ?i0 ?i1 ?i2 ?_ ?is); (case iN => k_asm); (case im => k_mem); (case ii => assumption); (case i0 => assumption); (case i1 => assumption); (case i2 => assumption); (case is => with_unfolding_all rfl); (intro tq)))
local macro_rules | `(tactic| walk_at "subscriptTail Name BinOp ref int") => `(tactic| (k_here; (rename LCg.NsObj _ _ => nsX); (with_reducible show wpAny _ _ (subscriptTail _ _ (Value.ref _) (Value.int _ _)) _ _ _); (with_unfolding_all refine' item_of ?iN ?im ?ii ?i0 ?i1 ?i2 ?_ ?is); (case iN => k_asm); (case im => k_mem); (case ii => assumption); (case i0 => assumption); (case i1 => assumption); (case i2 => assumption); (case is => with_unfolding_all rfl); (intro tq)))
set_option maxRecDepth 100000 in
set_option maxHeartbeats 8000000 in
theorem backw (Z p : Int) (t1 t2 : Tok) (hp : p = 23 ∨ p = 47 ∨ p = 19) (hz : 0 ≤ Z) (hz' : Z < p) : Ct 5 101 [.int Z t1, .int p t2] (Gives fun o => ∃ ys, o = LCg.lst ys ∧ IntsAre ys (bwList p Z)) := by
  w_top off
  k_with_none
  delta Ct KK VW LS PG ar
  k_fill
  intro w mean mg mb dp un fr gd s Q E X T hd hu hret
  refine wpAny_call ?_
  k_dflt (refine' enterC ?k1 ?k2 ?k3 ?k4 ?k5 ?k6 ?k7 ?k8 ?_ ?c1 ?c2 ?c3; (case k1 => exact X); (case k2 => exact T); (case k3 => k_is); (case k4 => k_is); (case k5 => dsimp only; omega); (case k6 => exact BindsTo.of_eq rfl); (case k7 => exact rfl); (case k8 => decide +kernel); (case c1 => exact rfl); (case c2 => exact rfl); (case c3 => exact rfl))
  intro L' h₁ tk₁ cells hL F' N' Y'
  k_cells Y'
  try simp only [List.cons_append, List.nil_append] at N'
  try dsimp only
  have hpl := p_ge hp
  have hpu := p_le hp
  replace hp := hold_in hp
  have hla := lav_rng p
  have hst := stv_rng p
  k_with "state" => exact bw_turn (by assumption)
  k_steps
  unfold Hold
  (rename Fr _ _ _ _ => lF'); (rename News _ _ _ _ => lN'); (rename IsRange _ _ _ _ _ _ _ _ => rgX)
  with_unfolding_all refine' loop_ints (y := Str.ofString "z") [] (BW (lav p) (stv p) p Z) (by rfl) rgX ?ks ?kz lF' lN' ?ky ?kp ?_ ?_
  case ks => exact pm1_small hp
  case kz => first | exact rangeSize_nat _ _ | rfl
  case ky => rfl
  case kp => exact bw_start hz hz'
  all_goals (try clear lF' lN')
  · intro zz tz vs fs cn pre k t u h tk own hk hlt hoff hI hP F' N'
    have kMark : KstMark := kstMark
    have hrng := bw_rng hP
    have hl1 := bw_len hP
    have hl2 := hI.length
    have hl3 : vs.length < 47 := lt47 hl2 hl1 (Nat.lt_trans hlt (pm1_lt hp))
    (try dsimp only at N'); (try simp only [List.nil_append, List.cons_append, List.append_nil] at N'); (try simp only [List.map_cons, List.map_nil] at hoff)
    (try dsimp only at F')
    k_steps
  · intro zz tz vs fs cn u h tk hI hP F' N'
    have kMark : KstMark := kstMark
    have hl1 := bw_len hP
    rw [rangeKs_length] at hl1
    have hl2 := hI.length
    k_steps
    (rename Fr _ _ _ _ => lF'); (rename News _ _ _ _ => lN'); (rename IsRange _ _ _ _ _ _ _ _ => rgX)
    refine CSrc.range (n := ((p - 1) / 2).toNat) (by rfl) lF' lN' rgX ?ks ?kz ?kl ?_
    case ks => rcases hp with rfl | rfl | rfl <;> decide
    case kz => rcases hp with rfl | rfl | rfl <;> decide
    case kl => rcases hp with rfl | rfl | rfl <;> decide
    clear lF' lN'
    intro g
    refine rest_W (fun i y => ∃ t, y = .int (60 * (60 * fs.getD (p - 3 + (i : Int) * -2).toNat 0 + fs.getD (p - 3 + (i : Int) * -2 + 1).toNat 0)) t) ?_ ?_
    · intro i v I oI C oC D m₂ ys h' tk' E' hi hv hC hx F' N' off ne hMark
      obtain ⟨tv, hv⟩ := hv
      rw [hv] at hx
      try simp only [LCg.Off3, and_true] at off
      obtain ⟨hk1, hk2, hk3, hk4, hk5⟩ := bw_idx hp hi hl1
      k_steps
      exact ElEnd.intro (by assumption) (by assumption) (by kcf_all) (by simp only [LCg.Off3, and_true]; exact off) trivial ⟨_, rfl⟩
    · intro ys hys hall
      have hfs := bw_fs hP
      rw [rangeKs_length] at hfs
      rw [hfs] at hall
      intro D h2 tk2 F2 N2 _
      exact hret _ _ _ ⟨D, _, rfl, News.fresh N2 (List.Mem.head _), News.get N2 (List.Mem.head _), ys, rfl, ints_of hys hall⟩ (fr_keep F2)
end Mine
end
section
open PySem PySem.W PySem.Spec PySem.Calls PyProof.Rows
namespace Mine
local macro_rules | `(tactic| walk_at "call type:bytes") => `(tactic| (k_here; (with_reducible show wpAny _ _ (call (Value.type "bytes") [Value.ref _]) _ _ _); k_dflt (refine' ba_bytes ?N ?m ?z ?_; (case N => k_asm); (case m => k_mem); (case z => omega))))
local macro_rules | `(tactic| walk_at "pyIter ref") => `(tactic| (k_here; refine Mine.hold_in ?_))
set_option maxRecDepth 100000 in
set_option maxHeartbeats 8000000 in
theorem swap4 (d : List UInt8) (t1 t2 : Tok) (hd4 : d.length % 4 = 0) (hd0 : d.length ≤ 1000) : CtI 2 77 [.bytes d.toArray t1, .int 4 t2] (fun r _ _ => ∃ t, r = .bytes (bswap 4 d).toArray t) := by
  w_top off
  k_with_none
  delta CtI KK VW LS PG ar
  k_fill
  intro w mean mg mb dp un fr gd s Q E X T hd hu hret
  refine wpI_call ?_
  k_dflt (refine' enterPI ?k1 ?k2 ?k3 ?k4 ?k5 ?k6 ?k7 ?_ ?c1 ?c2 ?c3 ?c4; (case k1 => exact X); (case k2 => exact T); (case k3 => k_is); (case k4 => k_is); (case k5 => dsimp only; omega); (case k6 => exact BindsTo.of_eq rfl); (case k7 => exact locs rfl); (case c1 => exact rfl); (case c2 => exact rfl); (case c3 => exact rfl); (case c4 => decide))
  intro L' h₁ hL F'
  have N' : News s.heap L' h₁ [] := News.nil
  try dsimp only
  refine wpI_execs_cons (wpI_Assign_Name (wpI_Call_Name ?_) (by with_unfolding_all rfl))
  k_steps
  refine wpI_callWith_type1 (by with_unfolding_all rfl) ?_
  k_steps
  refine call_bytearray (k := d.length) (by omega) fun S h₂ hx hS hk₂ => ?_
  (rename Fr _ _ _ _ => lF'); (rename News _ _ _ _ => lN')
  have F₂ := fr_keeps lF' hk₂
  have N₂ := news_add lF' (news_keeps lN' hk₂) hx hS
  clear lF' lN'
  k_steps
  refine wpI_any ?_
  k_steps
  unfold Hold
  (rename Fr _ _ _ _ => lF'); (rename News _ _ _ _ => lN'); (rename IsRange _ _ _ _ _ _ _ _ => rgX)
  with_unfolding_all refine' loop_step (y := Str.ofString "j") (n := d.length / 4) (fun i c => BS d 4 (4 * i) 0 c) (by rfl) rgX ?ks ?kz lF' lN' ?kj ?_ ?_
  case ks => (rw [List.size_toArray]; exact small_step4 hd4 hd0)
  case kz => (rw [List.size_toArray]; exact size_step4 hd4)
  case kj => exact bs_start
  all_goals (try clear lF' lN')
  · intro i cA I it v uj t h tk hi hSI hv hJ F' N'
    have hbs := bs_size hJ
    k_steps
    unfold Hold
    (rename Fr _ _ _ _ => lF'); (rename News _ _ _ _ => lN'); (rename IsRange _ _ _ _ _ _ _ _ => rgX)
    with_unfolding_all refine' loop_in (n := 4) (fun j c => BS d 4 (4 * i) j c) (by rfl) rgX (by decide) (by rfl) lF' lN' hJ ?_ ?_
    all_goals (try clear lF' lN')
    · clear hJ hbs
      intro cA pre k t u h tk own hk hlt hoff hJ F' N'
      have hbs := bs_size hJ
      have kMark : KstMark := kstMark
      k_steps
      (rename Fr _ _ _ _ => lF'); (rename News _ _ _ _ => lN')
      refine ba_set lF' lN' (.tail (Nat.ne_of_gt hSI) (.head fun p hp => hoff p hp S (by simp))) (by omega) (by omega) (by omega) (by omega) (byte_lt _ _) fun h' F' N' => ?_
      clear lF' lN'
      k_with "state" => (rw [List.length_append]; exact bs_step hJ (by omega) hlt (by omega) (by omega) (congrArg (fun q : Nat => ((d.getD q 0).toNat : Int)) (by omega)))
      k_steps
    · clear hJ hbs
      intro cA uj' h tk hJ F' N'
      k_steps
      exact step_end F' N' (by decide) (Nat.ne_of_lt hSI) (bs_next hJ)
  · intro ui uj cA h tk hJ F' N'
    have hbs := bs_size hJ
    have hd := bs_done hJ (by omega)
    subst hd
    k_steps
    exact hret _ _ _ ⟨_, rfl⟩ (fr_keep (by assumption))
set_option maxRecDepth 100000 in
set_option maxHeartbeats 8000000 in
theorem swap2 (d : List UInt8) (t1 t2 : Tok) (hd4 : d.length % 4 = 0) (hd0 : d.length ≤ 1000) : CtI 2 77 [.bytes d.toArray t1, .int 2 t2] (fun r _ _ => ∃ t, r = .bytes (bswap 2 d).toArray t) := by
  w_top off
  k_with_none
  delta CtI KK VW LS PG ar
  k_fill
  intro w mean mg mb dp un fr gd s Q E X T hd hu hret
  refine wpI_call ?_
  k_dflt (refine' enterPI ?k1 ?k2 ?k3 ?k4 ?k5 ?k6 ?k7 ?_ ?c1 ?c2 ?c3 ?c4; (case k1 => exact X); (case k2 => exact T); (case k3 => k_is); (case k4 => k_is); (case k5 => dsimp only; omega); (case k6 => exact BindsTo.of_eq rfl); (case k7 => exact locs rfl); (case c1 => exact rfl); (case c2 => exact rfl); (case c3 => exact rfl); (case c4 => decide))
  intro L' h₁ hL F'
  have N' : News s.heap L' h₁ [] := News.nil
  try dsimp only
  refine wpI_execs_cons (wpI_Assign_Name (wpI_Call_Name ?_) (by with_unfolding_all rfl))
  k_steps
  refine wpI_callWith_type1 (by with_unfolding_all rfl) ?_
  k_steps
  refine call_bytearray (k := d.length) (by omega) fun S h₂ hx hS hk₂ => ?_
  (rename Fr _ _ _ _ => lF'); (rename News _ _ _ _ => lN')
  have F₂ := fr_keeps lF' hk₂
  have N₂ := news_add lF' (news_keeps lN' hk₂) hx hS
  clear lF' lN'
  k_steps
  refine wpI_any ?_
  k_steps
  unfold Hold
  (rename Fr _ _ _ _ => lF'); (rename News _ _ _ _ => lN'); (rename IsRange _ _ _ _ _ _ _ _ => rgX)
  with_unfolding_all refine' loop_step (y := Str.ofString "j") (n := d.length / 2) (fun i c => BS d 2 (2 * i) 0 c) (by rfl) rgX ?ks ?kz lF' lN' ?kj ?_ ?_
  case ks => (rw [List.size_toArray]; exact small_step2 hd4 hd0)
  case kz => (rw [List.size_toArray]; exact size_step2 hd4)
  case kj => exact bs_start
  all_goals (try clear lF' lN')
  · intro i cA I it v uj t h tk hi hSI hv hJ F' N'
    have hbs := bs_size hJ
    k_steps
    unfold Hold
    (rename Fr _ _ _ _ => lF'); (rename News _ _ _ _ => lN'); (rename IsRange _ _ _ _ _ _ _ _ => rgX)
    with_unfolding_all refine' loop_in (n := 2) (fun j c => BS d 2 (2 * i) j c) (by rfl) rgX (by decide) (by rfl) lF' lN' hJ ?_ ?_
    all_goals (try clear lF' lN')
    · clear hJ hbs
      intro cA pre k t u h tk own hk hlt hoff hJ F' N'
      have hbs := bs_size hJ
      have kMark : KstMark := kstMark
      k_steps
      (rename Fr _ _ _ _ => lF'); (rename News _ _ _ _ => lN')
      refine ba_set lF' lN' (.tail (Nat.ne_of_gt hSI) (.head fun p hp => hoff p hp S (by simp))) (by omega) (by omega) (by omega) (by omega) (byte_lt _ _) fun h' F' N' => ?_
      clear lF' lN'
      k_with "state" => (rw [List.length_append]; exact bs_step hJ (by omega) hlt (by omega) (by omega) (congrArg (fun q : Nat => ((d.getD q 0).toNat : Int)) (by omega)))
      k_steps
    · clear hJ hbs
      intro cA uj' h tk hJ F' N'
      k_steps
      exact step_end F' N' (by decide) (Nat.ne_of_lt hSI) (bs_next hJ)
  · intro ui uj cA h tk hJ F' N'
    have hbs := bs_size hJ
    have hd := bs_done hJ (by omega)
    subst hd
    k_steps
    exact hret _ _ _ ⟨_, rfl⟩ (fr_keep (by assumption))
end Mine
end
section
open PySem PySem.W PySem.Spec PySem.Calls PyProof.Rows
namespace Mine
theorem pow_2_23 {prog : Program} {w : World} {A : Around} {E : Value → Shared → Prop} {s : Shared} {t u : Tok} {Q : Value → Shared → Prop} (h : Q (.int 8388608 s.toks) { s with toks := s.toks + 1 }) :
    wpAny (model prog w) A (binaryOp .Pow (.int 2 t) (.int 23 u)) Q E s := pow_int_small (by decide) (by decide) (by decide) h
local macro_rules | `(tactic| walk_at "binaryOp Pow int int") => `(tactic| (k_here; with_reducible refine pow_2_23 ?_))
local macro_rules | `(tactic| walk_at "subscriptTail") => `(tactic| (k_here; (with_reducible show wpAny _ _ (subscriptTail _ (PySem.Expr.Slice _ _ _ _) (Value.str (Str.ofString _) _) (Value.ref _)) _ _ _); refine Mine.hold_in ?_))
local macro_rules | `(tactic| walk_at "subscriptTail") => `(tactic| (k_here; (with_reducible show wpAny _ _ (subscriptTail _ (PySem.Expr.Slice _ _ none _) (Value.bytes _ _) (Value.ref _)) _ _ _); refine Mine.hold_in ?_))
local macro_rules | `(tactic| walk_at "subscriptTail") => `(tactic| (k_here; (with_reducible show wpAny _ _ (subscriptTail _ _ (Value.ref _) (Value.int _ _)) _ _ _); refine Mine.hold_in ?_))
local macro_rules | `(tactic| walk_at "subscriptTail") => `(tactic| (k_here; (with_reducible show wpAny _ _ (subscriptTail _ _ (Value.ref _) (Value.int _ _)) _ _ _); (with_unfolding_all refine' item_of ?iN ?im ?ii ?i0 ?i1 ?i2 ?_ ?is); (case iN => k_asm); (case im => k_mem); (case ii => assumption); (case i0 => first | decide | omega); (case i1 => omega); (case i2 => omega); (case is => with_unfolding_all rfl); (intro tq)))
local macro_rules | `(tactic| walk_at "binaryOp FloorDiv int int") => `(tactic| (k_here; with_reducible refine Mine.fdiv_p (by assumption) ?_))
local macro_rules | `(tactic| walk_at "binaryOp Mult int int") => `(tactic| (k_here; with_reducible refine Mine.mul_bnd (by assumption) ?_))
local macro_rules | `(tactic| walk_at "exec Assign cons ListComp") => `(tactic| (k_here; first | (refine wpAny_Assign_Name ?_ (by with_unfolding_all rfl)) | refine Mine.hold_in ?_))
local macro_rules | `(tactic| walk_at "exec For Name BinOp cons nil") => `(tactic| (k_here; (rename Fr _ _ _ _ => lF'); (with_unfolding_all refine' For_invVF lF' ?k1 ?k2 ?_; (case k1 => exact rfl); (case k2 => exact rfl); k_whole)))
local macro_rules | `(tactic| walk_at $s:str) => do if ["pyIter ref", "call ref", "eval ListComp", "call builtin:list.append", "call builtin:str.join", "call builtin:str.encode", "binaryOp Add str str", "binaryOp Add bytes bytes", "call builtin:bytes.join", "getMethod bytes", "call builtin:bytes.decode", "call builtin:len"].contains s.getString then `(tactic| (k_here; refine Mine.hold_in ?_)) else Lean.Macro.throwUnsupported
local macro_rules | `(tactic| walk_at "InvEndN") => `(tactic| (refine Mine.hold_in ?_))
local macro_rules | `(tactic| walk_at "compareOp NotEq int int") => `(tactic| (k_here; with_reducible refine Mine.ne_same ?_))
def LawCt : Prop := ∀ (w : World) (mean : ExcName → Option Value) (mg mb : Str → Option Value) (dp un : Nat) (fr : Option (List Env)) (gd : Option (List Code)) (s : Shared) (sc : Addr) (vs : List Value) (ns : List Int) (Q E : Value → Shared → Prop),
    (KK w).In s.heap → Top VW LS mean mg mb s.heap → dp + 20 < recursionLimit → un + 800 < cLine → s.heap.IsList sc vs.toArray → IntsAre vs ns → vs.length ≤ 63 →
    (∀ h' tk', Kp s.heap h' → Q (.bool true) { s with heap := h', toks := tk' }) → wpI (model PG w) (ar dp un fr gd) (call (.ref 106) [.ref sc]) Q E s
set_option maxRecDepth 100000 in
set_option maxHeartbeats 0 in
theorem lawC : LawCt := by
  w_top off
  k_with_none
  delta LawCt KK VW LS PG ar
  k_fill
  intro w mean mg mb dp un fr gd s sc vs ns Q E X T hdp hu hl hi0 hn hret
  refine wpI_call ?_
  k_dflt (refine' enterCI ?k1 ?k2 ?k3 ?k4 ?k5 ?k6 ?k7 ?k8 ?_ ?c1 ?c2 ?c3; (case k1 => exact X); (case k2 => exact T); (case k3 => k_is); (case k4 => k_is); (case k5 => dsimp only; omega); (case k6 => exact BindsTo.of_eq rfl); (case k7 => exact rfl); (case k8 => decide +kernel); (case c1 => exact rfl); (case c2 => exact rfl); (case c3 => exact rfl))
  intro L' h₁ tk₁ cells hL F' N' Y'
  k_cells Y'
  try simp only [List.cons_append, List.nil_append] at N'
  try dsimp only
  refine wpI_execs_cons (wpI_any ?_)
  k_steps
  unfold Hold
  (rename Fr _ _ _ _ => lF')
  refine ListComp_W lF' (by with_unfolding_all rfl) (by decide) (by rfl) (by decide) (by rfl) ?_
  k_steps
  (rename Fr _ _ _ _ => lF'); (rename News _ _ _ _ => lN'); (rename IsRange _ _ _ _ _ _ _ _ => rgX)
  refine CSrc.range (n := 4) (by rfl) lF' lN' rgX (by decide) (by rfl) (by decide) ?_
  clear lF' lN'
  intro g
  refine rest_W (fun i y => ∃ z t, y = .int z t) ?_ ?_
  · intro i v I oI C oC D m₂ ys h' tk' E' hi hv hC hx F' N' off ne hMark
    obtain ⟨tv, hv⟩ := hv
    rw [hv] at hx
    try simp only [LCg.Off3, and_true] at off
    k_steps
    (rename Fr _ _ _ _ => lF'); (rename News _ _ _ _ => lN')
    refine LSm.sum_ints lF' lN' (by rfl) (vs := (slicePick vs.toArray (some (0 + (i : Int) * 1)) none (some 4)).toList) ⟨_, (lN' _ (List.Mem.head _)).1, rfl, _, by rw [Array.toArray_toList]⟩ (hi0.pick _ _ _) fun h3 tk3 t3 F3 N3 => ?_
    exact ElEnd.intro F3 N3 (by kcf_all) (by simp only [LCg.Off3, and_true]; exact off) trivial ⟨_, _, rfl⟩
  · intro ys hys hall
    intro D h2 tk2 F2 N2 off2
    simp only [LCg.Off1, and_true] at off2
    obtain ⟨zs, hz4, hzs⟩ := any_ints hys hall
    k_steps
    refine wpI_execs_split 11 (by rfl) (by rfl) ?_
    k_steps
    unfold Hold
    (rename News _ _ _ _ => lN')
    with_unfolding_all refine' menu3 lN' ?im ?i0 ?i1 ?_ ?is
    case im => k_mem
    case i0 => exact Int.fmod_nonneg_of_pos _ (by decide)
    case i1 => exact Int.fmod_lt_of_pos _ (by decide)
    case is => with_unfolding_all rfl
    intro p tq hp
    have hpl := p_ge hp
    have hpu := p_le hp
    replace hp := hold_in hp
    k_steps
    unfold Hold
    (rename Fr _ _ _ _ => lF')
    refine ListComp_W lF' (by with_unfolding_all rfl) (by decide) (by rfl) (by decide) (by rfl) ?_
    k_steps
    (rename Fr _ _ _ _ => lF'); (rename News _ _ _ _ => lN'); (rename IsRange _ _ _ _ _ _ _ _ => rgX)
    refine CSrc.range (n := ((p - 1) / 2).toNat) (by rfl) lF' lN' rgX ?ks ?kz ?kl ?_
    case ks => exact half_ks hp
    case kz => exact half_kz hp
    case kl => exact half_kl hp
    clear lF' lN'
    intro g2
    refine rest_W (fun i y => ∃ t, y = .int ((zs.getD 2 0 + 5 * (i : Int)).fmod 12) t) ?_ ?_
    · intro i v I oI C oC D2 m₂ ys2 h' tk' E' hi hv hC hx F' N' off ne hMark
      obtain ⟨tv, hv⟩ := hv
      rw [hv] at hx
      try simp only [LCg.Off3, and_true] at off
      k_steps
      exact ElEnd.intro (by assumption) (by assumption) (by kcf_all) (by simp only [LCg.Off3, and_true]; exact off) trivial ⟨_, congrArg (fun z : Int => Value.int ((zs.getD 2 0 + 5 * z).fmod 12) _) (show (0 : Int) + (i : Int) * 1 = (i : Int) by omega)⟩
    · intro ys2 hys2 hall2
      intro D2 h3 tk3 F3 N3 off3
      simp only [LCg.Off1, and_true] at off3
      have hdz := w_ne hp
      have hpa := p_abs hp
      have hza := z_abs p (zs.getD (Int.toNat 1) 0) hp
      have st3 := hold_in off3
      obtain ⟨-, -, -, -, x4, x3, -, -⟩ := off3
      obtain ⟨-, -, y4, y3, -, -⟩ := off2
      try dsimp only
      k_steps
      clear x4 x3 y4 y3
      have off3 := st3
      clear st3
      unfold Hold at off3
      (rename Fr _ _ _ _ => lF'); (rename News _ _ _ _ => lN'); (rename IsRange _ _ _ _ _ _ _ _ => rgX)
      obtain ⟨z, W, t1, t2, t3, t4, t5, t6, m₀, hz0, hz1, hW0, hB0, hB1, hR0, hR1, F5⟩ : ∃ (z W : Int) (t1 t2 t3 t4 t5 t6 : Tok) (m₀ : Str → Option Value), 1 ≤ z ∧ z < p ∧ 0 < W ∧ 8388608 < p * W ∧ p * W < 16777216 ∧ 0 ≤ z * W ∧ z * W < p * W ∧
          Fr s.heap L' _ (fun y => if y = Str.ofString "rest" then some (.int (z * W) t1) else if y = Str.ofString "below" then some (.int (p * W) t2) else if y = Str.ofString "weight" then some (.int W t3) else if y = Str.ofString "z" then some (.int z t4) else
            if y = Str.ofString "half" then some (.int ((p - 1).fdiv 2) t5) else if y = Str.ofString "p" then some (.int p t6) else m₀ y) := by
        have hz0 := z_lo p (zs.getD (Int.toNat 1) 0) hp
        have hz1 := z_hi p (zs.getD (Int.toNat 1) 0) hp
        obtain ⟨hW0, hB0, hB1⟩ := w_rng p (zs.getD (Int.toNat 3) 0) hp
        obtain ⟨hR0, hR1⟩ := mulW_rng hW0 (Int.le_trans (by decide) hz0) hz1
        exact ⟨_, _, _, _, _, _, _, _, _, hz0, hz1, hW0, hB0, hB1, hR0, hR1, lF'⟩
      have N5 := news_pick lN'
      revert F5 N5
      repeat (rename Fr _ _ _ _ => lF'; clear lF')
      repeat (rename News _ _ _ _ => lN'; clear lN')
      intro F5 N5
      try dsimp only
      try dsimp only at rgX
      rename D2 < _ ∧ _ => hl1
      obtain ⟨a1, -, -, b6, b5, b4, b3, -, -⟩ := hl1
      have hne := And.intro (Nat.ne_of_lt a1) (And.intro (Nat.ne_of_lt b6) (And.intro (Nat.ne_of_lt b5) (And.intro (Nat.ne_of_lt b4) (Nat.ne_of_lt b3))))
      clear a1 b6 b5 b4 b3
      obtain ⟨-, -, c6, c5, c4, c3, -, -⟩ := off3
      rename D < _ ∧ _ => hl1
      clear hl1 hall hdz hpa hza hys
      unfold Hold
      (rename Fr _ _ _ _ => lF'); (rename News _ _ _ _ => lN'); (rename IsRange _ _ _ _ _ _ _ _ => rgX)
      with_unfolding_all refine' loop_txts (y := Str.ofString "rest") [Str.ofString "above", Str.ofString "clock"] (CK p z W (p * W)) (n := ((p - 1) / 2).toNat) (by rfl) rgX ?ks ?kz lF' lN' ?ky ?kp ?_ ?_
      case ks => exact half_ks hp
      case kz => exact half_kz hp
      case ky => rfl
      case kp => exact ck_start rfl hW0 (Int.le_trans (by decide) hz0) hz1
      all_goals (try clear lF' lN')
      · intro zz tz vs fs cn pre k t u h tk own hk hlt hoff hI hP F' N'
        have kMark : KstMark := kstMark
        obtain ⟨hc1, hc2, hc3, hc4, hc5, hc6, hc7⟩ := id hP
        have hl2 := hI.length
        have hl3 : vs.length < 47 := lt47 hl2 hc3 (Nat.lt_trans hlt (half_lt hp))
        (try dsimp only at N'); (try simp only [List.nil_append, List.cons_append, List.append_nil] at N'); (try simp only [List.map_cons, List.map_nil] at hoff)
        (try dsimp only at F')
        k_steps
        unfold Hold
        (rename Fr _ _ _ _ => lF'); (rename News _ _ _ _ => lN')
        refine Ct.useO (div3x (p * W) zz _ _ _ _ _ _ hB0 hB1 hc4 hc5) lF' X lN' T (room_ok hdp (by decide)) (units_ok hu (by decide)) ?_
        intro xq oq hq tkq hPq F' N' l1
        obtain ⟨q, r, t7, t8, hE, he, hr0, hr1⟩ := hPq
        subst hE
        obtain ⟨hq0, hq1⟩ := ck_q (p_pos hp) rfl hW0 hP he hr0 hr1
        clear lF' lN'
        (try dsimp only); (try simp only [List.forall_mem_cons] at l1)
        k_steps
        unfold Hold
        rw [cell_text q hq0 hq1]
        k_steps
        unfold Hold
        rw [cell_cut]
        (rename Fr _ _ _ _ => lF'); (rename News _ _ _ _ => lN')
        refine append_K lF' lN' (upd_cells l1.1 hne fun p hp => hoff p hp _ (by simp)) (fun h' F' N' => ?_) (sz47 hl3)
        clear lF' lN'
        try dsimp only
        k_steps
        unfold Hold
        (rename Fr _ _ _ _ => lF'); (rename News _ _ _ _ => lN')
        refine txts_end hI lF' lN' (by rfl) (fun z' h1 h2 h3 => ?_) (ck_turn (p_pos hp) rfl hW0 hP he hr0 hr1 rfl)
        obtain ⟨h4, h5⟩ := stored2 h3
        simp only [if_neg h1, if_neg h2, if_neg h4, if_neg h5, h3, Bool.false_eq_true, if_false]
      · intro zz tz vs fs cn u h tk hI hP F' N'
        obtain ⟨rfl, hc2, hc3, -, -, -, -⟩ := id hP
        rw [rangeKs_length] at hc2 hc3
        rw [rangeKs_length, zk_back hp hz0 hz1] at F'
        subst hc2
        clear hP
        have F4 := fr_put (x := Str.ofString "rest") (v := some (.int (z * W) tz)) (fr_put (x := Str.ofString "weight") (v := some (.int W t3)) (fr_put (x := Str.ofString "z") (v := some (.int z t4)) (fr_put (x := Str.ofString "half") (v := some (.int ((p - 1).fdiv 2) t5)) (fr_put (x := Str.ofString "p") (v := some (.int p t6)) F' (by rfl)) (by rfl)) (by rfl)) (by rfl)) (by rfl)
        obtain ⟨m₁, F5⟩ : ∃ m₁ : Str → Option Value, Fr s.heap L' h (fun y => if y = Str.ofString "rest" then some (.int (z * W) tz) else if y = Str.ofString "weight" then some (.int W t3) else if y = Str.ofString "z" then some (.int z t4) else
              if y = Str.ofString "half" then some (.int ((p - 1).fdiv 2) t5) else if y = Str.ofString "p" then some (.int p t6) else m₁ y) := ⟨_, F4⟩
        clear F' F4
        have N5 : News s.heap L' h _ := N'
        clear N'
        obtain ⟨a, ha⟩ : ∃ a, a = zs.getD 2 0 := ⟨_, rfl⟩
        have hways : IntsAre ys2 (wayL a ((p - 1) / 2).toNat) := by
          refine ints_of hys2 fun i hi => ?_
          obtain ⟨y, h1, t, h2⟩ := hall2 i hi
          exact ⟨y, h1, t, by rw [h2, ha]; rfl⟩
        clear hall2
        k_steps
        unfold Hold
        (rename Fr _ _ _ _ => lF')
        refine Assign_ListComp_W lF' rfl (by with_unfolding_all rfl) (by with_unfolding_all rfl) (by decide) (by rfl) (by decide) (by rfl) (by rfl) (by rfl) ?_
        k_steps
        (rename Fr _ _ _ _ => lF'); (rename News _ _ _ _ => lN'); (rename IsRange _ _ _ _ _ _ _ _ => rgX)
        refine CSrc.range (n := ((p - 1) / 2).toNat) (by rfl) lF' lN' rgX ?ks ?kz ?kl ?_
        case ks => exact half_ks hp
        case kz => exact half_kz hp
        case kl => exact half_kl hp
        clear lF' lN'
        intro g3
        refine rest_W (fun i y => ∃ t, y = .str (drI p z a i) t) ?_ ?_
        · intro i v I oI C oC D3 m₂ ys3 h' tk' E' hi hv hC hx F' N' off ne hMark
          obtain ⟨tv, hv⟩ := hv
          rw [hv] at hx
          try simp only [LCg.Off3, and_true] at off
          have hwl := wayL_len a ((p - 1) / 2).toNat
          have hn47 := half_lt hp
          k_steps
          unfold Hold
          (rename Fr _ _ _ _ => lF'); (rename News _ _ _ _ => lN')
          have hix := nat_ix i
          refine Ct.use (dressx p z a i _ _ _ _ (by rw [hix]; exact cells_get p z hi) (by rw [hix]; exact wayL_get a hi)) lF' X lN' T (room_ok hdp (by decide)) (units_ok hu (by decide)) ?_
          intro rr h2' tk2' hR F2' N2'
          obtain ⟨t9, hE⟩ := hR
          subst hE
          clear lF' lN'
          try dsimp only
          exact ElEnd.intro F2' N2' (by kcf_all) (by simp only [LCg.Off3, and_true]; exact off) trivial ⟨_, rfl⟩
        · intro ys3 hys3 hall3
          intro D3 h4 tk4 F6 N6 off6
          simp only [LCg.Off1, and_true] at off6
          have hdr : StrsAre ys3 (drL p z a ((p - 1) / 2).toNat) := strs_of hys3 hall3
          clear hall3
          have hn47 := half_lt hp
          try dsimp only
          k_steps
          unfold Hold
          refine join_listC ⟨_, (N6 _ (List.Mem.head _)).1, rfl, _, rfl⟩ hdr (by decide) (dr_sum a (p_pos hp) (Int.le_trans (by decide) hz0) hz1 hn47) fun t9 k9 => ?_
          k_steps
          unfold Hold
          refine KOpn.add (plain_add1 a (p_pos hp) (Int.le_trans (by decide) hz0) hz1 hn47) fun t10 k10 hx => ?_
          clear hx
          k_steps
          unfold Hold
          refine KOpn.add (plain_add2 a (p_pos hp) (Int.le_trans (by decide) hz0) hz1 hn47) fun t11 k11 hx => ?_
          clear hx
          refine meth_encode ?_
          k_steps
          unfold Hold
          refine call_encode (plain_ascii a (p_pos hp) (Int.le_trans (by decide) hz0) hz1 _) (plain_size a (p_pos hp) (Int.le_trans (by decide) hz0) hz1 (Nat.le_trans (Nat.le_of_lt hn47) (by decide))) ?_
          have hpb := plain_bytes p z a ((p - 1) / 2).toNat
          unfold plainS at hpb
          rw [hpb]
          clear hpb
          try dsimp only
          k_steps
          rw [List.take_zero]
          k_steps
          simp only [List.drop_succ_cons, List.drop_zero]
          have hp0 := p_pos hp
          have hz00 : 0 ≤ z := Int.le_trans (by decide) hz0
          clear rgX
          rename IsRange _ _ _ _ _ _ _ _ => rgX
          clear rgX off6
          (rename Fr _ _ _ _ => lF'); (rename News _ _ _ _ => lN')
          have F7 := fr_put (x := Str.ofString "plain") (v := some (.bytes (plainL (drW p z a ((p - 1) / 2).toNat)).toArray (k11 + 1))) (fr_put (x := Str.ofString "rest") (v := some (.int (z * W) tz)) (fr_put (x := Str.ofString "weight") (v := some (.int W t3)) (fr_put (x := Str.ofString "z") (v := some (.int z t4)) (fr_put (x := Str.ofString "half") (v := some (.int ((p - 1).fdiv 2) t5)) (fr_put (x := Str.ofString "p") (v := some (.int p t6)) lF' (by rfl)) (by rfl)) (by rfl)) (by rfl)) (by rfl)) (by rfl)
          obtain ⟨m₂, F8⟩ : ∃ m₂ : Str → Option Value, Fr s.heap L' _ (fun y => if y = Str.ofString "plain" then some (.bytes (plainL (drW p z a ((p - 1) / 2).toNat)).toArray (k11 + 1)) else if y = Str.ofString "rest" then some (.int (z * W) tz) else if y = Str.ofString "weight" then some (.int W t3) else if y = Str.ofString "z" then some (.int z t4) else
                if y = Str.ofString "half" then some (.int ((p - 1).fdiv 2) t5) else if y = Str.ofString "p" then some (.int p t6) else m₂ y) := ⟨_, F7⟩
          have N8 := news_tail lN'
          clear lF' lN' F7
          obtain ⟨o77, h77, fd77, hfd77⟩ : ∃ o : Obj, s.heap.get? 77 = some o ∧ ∃ fd, o.data = .func fd := ⟨_, X _ _ (by k_is), _, rfl⟩
          refine wpI_execs_cons (wpI_Assign_Name (wpI_Call_Name ?_) (by with_unfolding_all rfl))
          k_steps
          refine wpI_callWith_fn2 (o := o77) (fd := fd77) (by with_unfolding_all rfl) (wpI_Call_Name ?_)
          k_steps
          refine wpI_callWith_fn2 (o := o77) (fd := fd77) (by with_unfolding_all rfl) (wpI_any ?_)
          k_steps
          unfold Hold
          refine join_listC ⟨_, (N8 _ (List.Mem.head _)).1, rfl, _, rfl⟩ hI (by decide) (cell_sum p z hn47) fun t12 k12 => ?_
          try dsimp only
          refine meth_encode ?_
          k_steps
          unfold Hold
          refine call_encode (row_ascii hp0 hz00 hz1 _) (row_size p z hn47) ?_
          rw [row_bytes]
          try dsimp only
          k_steps
          refine CtI.use (swap4 _ _ _ (row_mod p z _) (row_1000 p z hn47)) F8 X N8 T (room_ok hdp (by decide)) (units_ok hu (by decide)) ?_
          intro r1 h5 tk5 hR1 F9 N9
          obtain ⟨t13, hE⟩ := hR1
          subst hE
          clear F8 N8
          try dsimp only
          k_steps
          refine CtI.use (swap2 _ _ _ (row2_mod p z _) (row2_1000 p z hn47)) F9 X N9 T (room_ok hdp (by decide)) (units_ok hu (by decide)) ?_
          intro r1 h6 tk6 hR1 F10 N10
          obtain ⟨t14, hE⟩ := hR1
          subst hE
          clear F9 N9
          try dsimp only
          k_steps
          refine wpI_any ?_
          (rename News _ _ _ _ => lN'); (rename Fr _ _ _ _ => lF')
          have N11 := news_drop5 lN'
          clear lN'
          clear hne c5 c4 c3 hI hc3 hdr hys3 h77 hfd77 hR0 hR1 hB0 hB1 hW0
          try dsimp only
          rename Fr _ _ _ _ => lF'
          k_steps
          unfold Hold
          (rename Fr _ _ _ _ => lF')
          refine Assign_ListComp_W lF' rfl (by with_unfolding_all rfl) (by with_unfolding_all rfl) (by decide) (by rfl) (by decide) (by rfl) (by rfl) (by rfl) ?_
          k_steps
          (rename Fr _ _ _ _ => lF'); (rename News _ _ _ _ => lN'); (rename IsRange _ _ _ _ _ _ _ _ => rgX)
          refine CSrc.range (n := ((p - 1) / 2).toNat) (by rfl) lF' lN' rgX (half_ks hp) (half_kz hp) (half_kl hp) ?_
          clear lF' lN'
          intro g4
          refine rest_W (fun i y => ∃ t, y = .bytes (wB (exT (cN p z i))).toArray t) ?_ ?_
          · intro i v I oI C oC D4 m₃ ys4 h' tk' E' hi hv hC hx F' N' off ne hMark
            obtain ⟨tv, hv⟩ := hv
            rw [hv] at hx
            try simp only [LCg.Off3, and_true] at off
            k_steps
            unfold Hold
            (rename Fr _ _ _ _ => lF'); (rename News _ _ _ _ => lN')
            have hb1 := turn_size p z hn47
            refine KBc.slice_K (s := ⟨_, _, _, _, _⟩) lF' lN' (ks := KBw.bInts (turnL p z ((p - 1) / 2).toNat).toArray) rfl (by constructor) (by constructor) hb1 ?_
            intro h8 t8 k8 F8 N8 kb
            have e8 := part_cut p z hi _ _ (ix4 i) (ix44 i) kb
            clear lF' lN' kb
            refine (congrArg (fun b => ElEnd _ _ _ _ _ _ _ _ _ _ _ _ _ (Value.bytes b t8) _) e8).mpr ?_
            exact ElEnd.intro F8 N8 (by kcf_all) (by simp only [LCg.Off3, and_true]; exact off) trivial ⟨_, rfl⟩
          · intro ys4 hys4 hall4
            intro D4 h9 tk9 F9 N9 off9
            simp only [LCg.Off1, and_true] at off9
            have hpt : BytesAre ys4 ((exW p z ((p - 1) / 2).toNat).map wB) := parts_are hys4 hall4
            clear hall4
            try dsimp only
            k_steps
            unfold Hold
            refine KBy.add_bytes (sz1 a hp0 hz00 hz1 hn47) fun t15 k15 => ?_
            k_steps
            unfold Hold
            refine meth_bjoin ?_
            k_steps
            unfold Hold
            refine call_bjoin ⟨_, (N9 _ (List.Mem.head _)).1, rfl, _, rfl⟩ hpt (ex_two z hp) (ex_size hp0 hz00 hz1 hn47) fun t16 k16 => ?_
            k_steps
            unfold Hold
            refine KBy.add_bytes (sz2 a hp0 hz00 hz1 hn47) fun t17 k17 => ?_
            k_steps
            unfold Hold
            refine KBy.add_bytes (sz3 a hp0 hz00 hz1 hn47) fun t18 k18 => ?_
            rw [answer_eq]
            try dsimp only
            k_steps
            (rename Fr _ _ _ _ => lF'); (rename News _ _ _ _ => lN')
            have F10 := fr_put (x := Str.ofString "answer") (v := some (.bytes (answerL (drW p z a ((p - 1) / 2).toNat) (exW p z ((p - 1) / 2).toNat)).toArray t18)) (fr_put (x := Str.ofString "plain") (v := some (.bytes (plainL (drW p z a ((p - 1) / 2).toNat)).toArray (k11 + 1))) (fr_put (x := Str.ofString "rest") (v := some (.int (z * W) tz)) (fr_put (x := Str.ofString "weight") (v := some (.int W t3)) (fr_put (x := Str.ofString "z") (v := some (.int z t4)) (fr_put (x := Str.ofString "half") (v := some (.int ((p - 1).fdiv 2) t5)) (fr_put (x := Str.ofString "p") (v := some (.int p t6)) lF' (by rfl)) (by rfl)) (by rfl)) (by rfl)) (by rfl)) (by rfl)) (by rfl)
            obtain ⟨m₃, F11⟩ : ∃ m₃ : Str → Option Value, Fr s.heap L' _ (fun y => if y = Str.ofString "answer" then some (.bytes (answerL (drW p z a ((p - 1) / 2).toNat) (exW p z ((p - 1) / 2).toNat)).toArray t18) else if y = Str.ofString "plain" then some (.bytes (plainL (drW p z a ((p - 1) / 2).toNat)).toArray (k11 + 1)) else if y = Str.ofString "rest" then some (.int (z * W) tz) else if y = Str.ofString "weight" then some (.int W t3) else if y = Str.ofString "z" then some (.int z t4) else
                  if y = Str.ofString "half" then some (.int ((p - 1).fdiv 2) t5) else if y = Str.ofString "p" then some (.int p t6) else m₃ y) := ⟨_, F10⟩
            have N11 := news_tail lN'
            clear lF' lN' F10 off9 hpt hys4
            (rename IsRange _ _ _ _ _ _ _ _ => rgX); clear rgX
            have hdw := drW_ok a hp0 hz00 hz1 ((p - 1) / 2).toNat
            have hew := exW_ok hp0 hz00 hz1 ((p - 1) / 2).toNat
            try dsimp only
            unfold Hold
            (rename Fr _ _ _ _ => lF')
            refine ListComp_W lF' (by with_unfolding_all rfl) (by decide) (by rfl) (by decide) (by rfl) ?_
            k_steps
            unfold Hold
            (rename Fr _ _ _ _ => lF'); (rename News _ _ _ _ => lN')
            refine Ct.useO (pf_plain _ hdw (dr_two z a hp) (dr_1000 z a hp)) lF' X lN' T (room_ok hdp (by decide)) (units_ok hu (by decide)) ?_
            intro xa oa ha1 tka hPa Fa Na la
            obtain ⟨vs1, hE, hv1⟩ := hPa
            subst hE
            clear lF' lN'
            try dsimp only
            refine CSrc.tuple (by rfl) Fa Na (List.Mem.head _) (len_line hv1 (dr_1000 z a hp)) ?_
            intro g5
            refine rest_W (fun i y => ∃ t, y = .int (toldV (cN p z i) (wN a i)) t) ?_ ?_
            · intro i v I oI C oC D5 m₄ ys5 h' tk' E' hi hv hC hx F' N' off ne hMark
              obtain ⟨hin, tv, hv⟩ := w_at hv1 hi hv
              subst hv
              try simp only [LCg.Off3, and_true] at off
              have hok := drT_ok (cN p z i) (wN a i) (cN_lt hp0 hz00 hz1 i) (wN_lt a i)
              have hch : ∀ c ∈ drT (cN p z i) (wN a i), okS c := tz_chars hok
              have hle : 0 < (drT (cN p z i) (wN a i)).length ∧ (drT (cN p z i) (wN a i)).length ≤ 6 := tz_leng hok
              clear Fa Na
              k_steps
              unfold Hold
              refine meth_bdecode ?_
              k_steps
              unfold Hold
              refine call_decode (decB_ne hle.1) (decB_lt hch) (decB_sz hle.2) fun t20 k20 => ?_
              k_steps
              unfold Hold
              refine Ct.use (tz_told (cN p z i) (wN a i) (cN_lt hp0 hz00 hz1 i) (wN_lt a i) _ _ (decB_eq hch)) F' X N' T (room_ok hdp (by decide)) (units_ok hu (by decide)) ?_
              intro rr h2' tk2' hR F2' N2'
              obtain ⟨t21, hE⟩ := hR
              subst hE
              try dsimp only
              exact ElEnd.intro F2' N2' (by kcf_all) (by simp only [LCg.Off3, and_true]; exact off) (by k_mem) ⟨_, rfl⟩
            · intro ys5 hys5 hall5
              intro D5 h10 tk10 F12 N12 off12
              simp only [LCg.Off1, and_true] at off12
              have htold := told_are hv1 hys5 hall5
              clear hall5 hys5 hv1
              try dsimp only
              k_steps
              unfold Hold
              (rename Fr _ _ _ _ => lF'); (rename News _ _ _ _ => lN')
              have N13 := news_told lN'
              clear lN'
              refine Assign_ListComp_W lF' rfl (by with_unfolding_all rfl) (by with_unfolding_all rfl) (by decide) (by rfl) (by decide) (by rfl) (by rfl) (by rfl) ?_
              k_steps
              unfold Hold
              (rename Fr _ _ _ _ => lF'); (rename News _ _ _ _ => lN')
              refine Ct.useO (pf_answer _ hdw (dr_1000 z a hp) hew (ex_2 z hp) (ex_1000 z hp)) lF' X lN' T (room_ok hdp (by decide)) (units_ok hu (by decide)) ?_
              intro xb ob hb1 tkb hPb Fb Nb lb
              obtain ⟨vs2, hE, hv2⟩ := hPb
              subst hE
              try dsimp only
              refine CSrc.tuple (by rfl) Fb Nb (List.Mem.head _) (len_line hv2 (ex_1000 z hp)) ?_
              intro g6
              refine rest_W (fun i y => ∃ t, y = .int (exV (cN p z i)) t) ?_ ?_
              · intro i v I oI C oC D6 m₅ ys6 h' tk' E' hi hv hC hx F' N' off ne hMark
                obtain ⟨hin, tv, hv⟩ := w_at hv2 hi hv
                subst hv
                try simp only [LCg.Off3, and_true] at off
                have hch : ∀ c ∈ exT (cN p z i), okS c := tz_chars (exT_ok (cN p z i) (cN_lt hp0 hz00 hz1 i))
                have hle : 0 < (exT (cN p z i)).length ∧ (exT (cN p z i)).length ≤ 6 := tz_leng (exT_ok (cN p z i) (cN_lt hp0 hz00 hz1 i))
                clear Fb Nb
                k_steps
                unfold Hold
                refine meth_bdecode ?_
                k_steps
                unfold Hold
                refine call_decode (decB_ne hle.1) (decB_lt hch) (decB_sz hle.2) fun t20 k20 => ?_
                k_steps
                unfold Hold
                refine Ct.use (tz_ex (cN p z i) (cN_lt hp0 hz00 hz1 i) _ _ (decB_eq hch)) F' X N' T (room_ok hdp (by decide)) (units_ok hu (by decide)) ?_
                intro rr h2' tk2' hR F2' N2'
                obtain ⟨t21, hE⟩ := hR
                subst hE
                try dsimp only
                exact ElEnd.intro F2' N2' (by kcf_all) (by simp only [LCg.Off3, and_true]; exact off) (by k_mem) ⟨_, rfl⟩
              · intro ys6 hys6 hall6
                intro D6 h12 tk12 F14 N14 off14
                simp only [LCg.Off1, and_true] at off14
                have hexc := ex_are hv2 hys6 hall6
                clear hall6 hys6 hv2
                try dsimp only
                (rename Fr _ _ _ _ => lF'); (rename News _ _ _ _ => lN')
                have F15 := fr_put (x := Str.ofString "exchanged") (v := some (.ref D6)) (fr_put (x := Str.ofString "rest") (v := some (.int (z * W) tz)) (fr_put (x := Str.ofString "weight") (v := some (.int W t3)) (fr_put (x := Str.ofString "z") (v := some (.int z t4)) (fr_put (x := Str.ofString "half") (v := some (.int ((p - 1).fdiv 2) t5)) (fr_put (x := Str.ofString "p") (v := some (.int p t6)) lF' (by rfl)) (by rfl)) (by rfl)) (by rfl)) (by rfl)) (by rfl)
                obtain ⟨m₅, F16⟩ : ∃ m₅ : Str → Option Value, Fr s.heap L' _ (fun y => if y = Str.ofString "exchanged" then some (.ref D6) else if y = Str.ofString "rest" then some (.int (z * W) tz) else if y = Str.ofString "weight" then some (.int W t3) else if y = Str.ofString "z" then some (.int z t4) else
                      if y = Str.ofString "half" then some (.int ((p - 1).fdiv 2) t5) else if y = Str.ofString "p" then some (.int p t6) else m₅ y) := ⟨_, F15⟩
                have N16 := news_ex lN'
                revert F16 N16
                repeat (rename Fr _ _ _ _ => lF'; clear lF')
                repeat (rename News _ _ _ _ => lN'; clear lN')
                intro F16 N16
                clear off12 off14 la lb hdw hew c6
                try dsimp only
                have l5 := htold.length
                have l6 := hexc.length
                rw [toldL_len] at l5
                rw [exL_len] at l6
                k_steps
                unfold Hold
                (rename Fr _ _ _ _ => lF'); (rename News _ _ _ _ => lN')
                with_unfolding_all refine' loop_look (x := Str.ofString "seconds") (by rfl) (List.Mem.head _) (htold.append hexc) lF' lN' ?_ ?_
                · intro n t u h tk own hoff F' N'
                  k_steps
                  unfold Hold
                  exact look_end F' N' (fun z' h1 => if_neg h1)
                · intro u h tk F' N'
                  clear lF' lN'
                  have F17 := fr_put (x := Str.ofString "exchanged") (v := some (.ref D6)) (fr_put (x := Str.ofString "rest") (v := some (.int (z * W) tz)) (fr_put (x := Str.ofString "weight") (v := some (.int W t3)) (fr_put (x := Str.ofString "z") (v := some (.int z t4)) (fr_put (x := Str.ofString "half") (v := some (.int ((p - 1).fdiv 2) t5)) (fr_put (x := Str.ofString "p") (v := some (.int p t6)) F' (by rfl)) (by rfl)) (by rfl)) (by rfl)) (by rfl)) (by rfl)
                  obtain ⟨m₆, F18⟩ : ∃ m₆ : Str → Option Value, Fr s.heap L' _ (fun y => if y = Str.ofString "exchanged" then some (.ref D6) else if y = Str.ofString "rest" then some (.int (z * W) tz) else if y = Str.ofString "weight" then some (.int W t3) else if y = Str.ofString "z" then some (.int z t4) else
                      if y = Str.ofString "half" then some (.int ((p - 1).fdiv 2) t5) else if y = Str.ofString "p" then some (.int p t6) else m₆ y) := ⟨_, F17⟩
                  have N18 : News s.heap L' _ _ := news_tail N'
                  clear F' N' F17
                  have hlt := len_half hp l5
                  try dsimp only
                  revert F18 N18
                  repeat (rename Fr _ _ _ _ => lF'; clear lF')
                  repeat (rename News _ _ _ _ => lN'; clear lN')
                  intro F18 N18
                  k_steps
                  unfold Hold
                  refine kst_len N18 (List.Mem.tail _ (List.Mem.head _)) rfl (fit47 l5 hn47) ?_
                  rw [hlt]
                  k_steps
                  unfold Hold
                  (rename Fr _ _ _ _ => lF'); (rename News _ _ _ _ => lN')
                  refine Ct.useO (backw z p _ _ hp hz00 hz1) lF' X lN' T (room_ok hdp (by decide)) (units_ok hu (by decide)) ?_
                  intro xc oc hc1 tkc hPc F' N' lc
                  obtain ⟨yq, hE, hbw⟩ := hPc
                  subst hE
                  rw [ex_back hp hz0 hz1] at hbw
                  clear lF' lN'
                  have l7 := hbw.length
                  rw [exL_len] at l7
                  (try simp only [List.forall_mem_cons] at lc)
                  try dsimp only
                  k_steps
                  unfold Hold
                  (rename Fr _ _ _ _ => lF')
                  refine Assign_ListComp_W lF' rfl (by with_unfolding_all rfl) (by with_unfolding_all rfl) (by decide) (by rfl) (by decide) (by rfl) (by rfl) (by rfl) ?_
                  k_steps
                  (rename Fr _ _ _ _ => lF'); (rename News _ _ _ _ => lN'); (rename IsRange _ _ _ _ _ _ _ _ => rgX)
                  refine CSrc.range (n := ((p - 1) / 2).toNat) (by rfl) lF' lN' rgX (half_ks hp) (half_kz hp) (half_kl hp) ?_
                  clear lF' lN'
                  intro g7
                  refine rest_W (fun i y => ∃ t, y = .int (60 * (cN p z i : Int)) t) ?_ ?_
                  · intro i v I oI C oC D7 m₇ ys7 h' tk' E' hi hv hC hx F' N' off ne hMark
                    obtain ⟨tv, hv⟩ := hv
                    rw [hv] at hx
                    try simp only [LCg.Off3, and_true] at off
                    have hwl := wayL_len a ((p - 1) / 2).toNat
                    have htl := toldL_len p z a ((p - 1) / 2).toNat
                    k_steps
                    all_goals try dsimp only
                    · exact ElEnd.intro (by assumption) (by assumption) (by kcf_all) (by simp only [LCg.Off3, and_true]; exact off) trivial ⟨_, congrArg (fun x => Value.int x _) (bare_neg hi (by assumption))⟩
                    · exact ElEnd.intro (by assumption) (by assumption) (by kcf_all) (by simp only [LCg.Off3, and_true]; exact off) trivial ⟨_, congrArg (fun x => Value.int x _) (bare_pos hi (by first | assumption | exact Int.not_lt.mpr (by assumption)))⟩
                  · intro ys7 hys7 hall7
                    intro D7 h13 tk13 F19 N19 off19
                    simp only [LCg.Off1, and_true] at off19
                    have hbare := bare_are hys7 hall7
                    clear hall7 hys7
                    try dsimp only
                    k_steps
                    unfold Hold
                    (rename Fr _ _ _ _ => lF'); (rename News _ _ _ _ => lN')
                    refine Ct.use (signedH z p _ _ hp) lF' X lN' T (room_ok hdp (by decide)) (units_ok hu (by decide)) ?_
                    intro r9 h14 tk14 hR F20 N20
                    obtain ⟨t30, hE⟩ := hR
                    subst hE
                    clear lF' lN'
                    obtain ⟨hs1, hs2⟩ := hsign_rng (z := z) hp
                    try dsimp only
                    k_steps
                    rw [class_law hp hz0 hz1, beq_self_eq_true]
                    exact hret _ _ (fr_keep F20)
end Mine
end
section
open PySem PySem.W PySem.Spec PySem.Calls PyProof.Rows
namespace Mine
theorem len63 {vs : List Value} {ns : List Int} (hI : IntsAre vs ns) (h : ¬ ((63 : Nat) : Int) < (ns.length : Int)) : vs.length ≤ 63 := by
  have := hI.length
  omega
set_option maxRecDepth 100000 in
set_option maxHeartbeats 0 in
theorem whole : PySem.Challenge.rw_zo0004_01.Holds := by
  w_top off
  k_with_none
  refine Mine.hd ?_
  k_fill
  intro w s₀ s₁ mg mb G Y fa o pm cd doc dV kV ho hd' hcd hD hmg hg args vals as hpre hlay hrd hwl hlo
  have KX := kIn_of Y
  refine Ground.open G ?_
  intro T B D TE TW
  have e106 := mg_of KX T.g (n := Str.ofString "law") (v := .ref 106) (by k_is)
  have hmg' : mg (Str.ofString "law") = some (.ref fa) := hmg
  rw [e106] at hmg'
  injection hmg' with hmg'
  injection hmg' with hmg'
  subst hmg'
  clear ho hd' hcd hD hmg
  wrow_args hpre hlay hrd hwl hlo
  rename_i hc1 hc2
  rename IntsAre _ _ => hI
  rename Heap.IsList _ _ _ => hL
  have hlen := len63 hI hc1
  refine lawC w _ mg mb (1 + claimMargin) 4 (some []) (some []) s₁ _ _ _ _ _ KX T (by decide +kernel) (by decide +kernel) hL hI hlen fun h' tk' hk => ?_
  refine GoodW.toG ⟨.inl ⟨.bool true, .bool true, [], rfl, fun cls => by first | rfl | wrow_none_raised, .bool true, by first | wrow_post | rfl, fun _ => ⟨List.nodup_nil, fun a ha => by cases ha⟩⟩, hk, rfl, hg⟩
end Mine
end
theorem PySem.Challenge.cw_zo0004_01_holds : PySem.Challenge.rw_zo0004_01.Holds := by
  exact Mine.whole
