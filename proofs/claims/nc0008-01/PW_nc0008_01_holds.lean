import PyProof.Rows.All
import Wide.All
import OpenK.AllK
import Wide.FinOn
import PySem.Challenge.RW_nc0008_01
set_option Elab.async false

section
open PySem PySem.W PyProof.Rows PySem.Calls
open PySem.Sem (wp)
namespace Mine

/-- the codes that may hold a bytearray's buffer while they stand on the stack -/
def heldIds : List String :=
  "bytearray.__contains__" :: "bytearray.__mod__" :: "bytearray.__rmod__" :: "_struct.pack_into.held" :: "bytearray.find.held" :: Builtin.Bytes.decodersThatHold

def okCode : Code → Bool
  | .builtin id _ => !heldIds.contains id
  | _ => true

def GoodC (Γ : Ctx) : Prop := okCode Γ.code = true ∧ ∀ x ∈ Γ.below, okCode x.1 = true
def GoodB (Γ : Ctx) : Prop := ∀ x ∈ Γ.below, okCode x.1 = true

theorem GoodC.enter {Γ : Ctx} (h : GoodC Γ) {c : Code} (hc : okCode c = true) (hd : Option Value) (p : Pos) : GoodC (Γ.enter c hd p) :=
  ⟨hc, fun x hx => by
    rcases List.mem_cons.mp hx with rfl | hx
    · exact h.1
    · exact h.2 x hx⟩
theorem GoodC.goto {Γ : Ctx} (h : GoodC Γ) {c : Code} (hc : okCode c = true) : GoodC (Γ.goto c) := ⟨hc, h.2⟩

/-- a tree under every context within A whose stack holds no such code; it raises nothing -/
def wpG {α : Type} (M : Model) (A : Around) (t : Sem α) (Q : α → Shared → Prop) (s : Shared) : Prop :=
  ∀ Γ p, Γ.In A → GoodC Γ → wp M Γ t (fun a _ s' => Q a s') (fun _ _ _ => False) p s

def codeG (M : Model) (A : Around) (c : Code) (R : Flow → Shared → Prop) (s : Shared) : Prop :=
  ∀ Γ p, Γ.code = c → Γ.Below A → GoodC Γ → wpCode M Γ (fun r s' => match r with | .ok f => R f s' | .error _ => False) p s

abbrev noE : Value → Shared → Prop := fun _ _ => False

section
variable {α β : Type} {M : Model} {A : Around} {s : Shared}

theorem wpG_leaf {t : Sem α} {Q : α → Shared → Prop} (h : wpAny M A t Q noE s) : wpG M A t Q s := fun Γ p hΓ _ => h Γ p hΓ
theorem wpG_pure {a : α} {Q : α → Shared → Prop} (h : Q a s) : wpG M A (pure a) Q s := fun _ _ _ _ => h
theorem wpG_mono {t : Sem α} {Q Q' : α → Shared → Prop} (h : wpG M A t Q s) (hQ : ∀ a s, Q a s → Q' a s) : wpG M A t Q' s :=
  fun Γ p hΓ g => Sem.wp_mono M Γ t (fun a _ s => hQ a s) (fun _ _ _ x => x) p s (h Γ p hΓ g)
theorem wpG_bind {m : Sem α} {f : α → Sem β} {Q : β → Shared → Prop} (h : wpG M A m (fun a s' => wpG M A (f a) Q s') s) :
    wpG M A (m >>= f) Q s := fun Γ p hΓ g => by
  rw [Sem.wp_bind']
  exact Sem.wp_mono M Γ m (fun a p' s' h' => h' Γ p' hΓ g) (fun _ _ _ h' => h') p s (h Γ p hΓ g)
/-- the first part by the library's rules -/
theorem wpG_bindL {m : Sem α} {f : α → Sem β} {Q : β → Shared → Prop} (h : wpAny M A m (fun a s' => wpG M A (f a) Q s') noE s) :
    wpG M A (m >>= f) Q s := wpG_bind (wpG_leaf h)
theorem wpG_holding {vs : List Value} {m : Sem α} {Q : α → Shared → Prop} (h : wpG M A m Q s) : wpG M A (holding vs m) Q s :=
  fun Γ p hΓ g => by rw [Sem.wp_holding]; exact h Γ p hΓ g
theorem wpG_onRaise {m : Sem α} {k : Value → Sem Unit} {Q : α → Shared → Prop} (h : wpG M A m Q s) : wpG M A (m.onRaise k) Q s := fun Γ p hΓ g => by
  rw [Sem.wp_onRaise]
  exact Sem.wp_mono M Γ m (fun _ _ _ h' => h') (fun e p' s' h' => h'.elim) p s (h Γ p hΓ g)
theorem wpG_tryCatch {m : Sem α} {k : Value → Sem α} {Q : α → Shared → Prop} (h : wpG M A m Q s) : wpG M A (tryCatch m k) Q s := fun Γ p hΓ g => by
  rw [Sem.wp_tryCatch']
  exact Sem.wp_mono M Γ m (fun _ _ _ h' => h') (fun e p' s' h' => h'.elim) p s (h Γ p hΓ g)
theorem wpG_attempt {m : Sem α} {Q : Except Value α → Shared → Prop} (h : wpG M A m (fun a => Q (.ok a)) s) : wpG M A m.attempt Q s := fun Γ p hΓ g => by
  rw [Sem.wp_attempt]
  exact Sem.wp_mono M Γ m (fun _ _ _ h' => h') (fun e p' s' h' => h'.elim) p s (h Γ p hΓ g)
theorem wpG_standAt {pos : Pos} {Q : Unit → Shared → Prop} (h : Q () s) : wpG M A (standAt pos) Q s := fun _ _ _ _ => h
theorem wpG_eq {t t' : Sem α} {Q : α → Shared → Prop} (e : t = t') (h : wpG M A t' Q s) : wpG M A t Q s := e ▸ h
theorem wpG_if_true {c : Prop} [Decidable c] {a b : Sem α} {Q : α → Shared → Prop} (hc : c) (h : wpG M A a Q s) : wpG M A (if c then a else b) Q s := by rw [if_pos hc]; exact h
theorem wpG_if_false {c : Prop} [Decidable c] {a b : Sem α} {Q : α → Shared → Prop} (hc : ¬ c) (h : wpG M A b Q s) : wpG M A (if c then a else b) Q s := by rw [if_neg hc]; exact h

theorem codeG_leaf {c : Code} {R : Flow → Shared → Prop} (h : codeAny M A c (fun r s' => match r with | .ok f => R f s' | .error _ => False) s) : codeG M A c R s :=
  fun Γ p hc hΓ _ => h Γ p hc hΓ
theorem codeG_mono {c : Code} {R R' : Flow → Shared → Prop} (h : codeG M A c R s) (hR : ∀ f s, R f s → R' f s) : codeG M A c R' s :=
  fun Γ p hc hΓ g => wpCode_mono (fun r s' x => by cases r with | ok f => exact hR f s' x | error e => exact x) (h Γ p hc hΓ g)

theorem wpG_run {c : Code} {Q : Flow → Shared → Prop} (ok : okCode c = true) (hc : codeG M A c Q s) : wpG M A (run c none) Q s :=
  fun Γ p hΓ g => by
    rw [Sem.wp_run]
    have hB : (Γ.enter c none p).Below A := by simpa [Around.mark] using hΓ.enter c none p (by intro x; cases x)
    exact wpCode_mono (fun r s' x => by cases r with | ok f => exact x | error e => exact x) (hc _ p rfl hB (g.enter ok none p))
theorem wpG_runValue {c : Code} {Q : Value → Shared → Prop} (ok : okCode c = true)
    (hc : codeG M A c (fun f s' => match f with | .ret v => Q v s' | _ => False) s) : wpG M A (runValue c) Q s :=
  fun Γ p hΓ g => by
    rw [Sem.wp_runValue]
    have hB : (Γ.enter c none p).Below A := by simpa [Around.mark] using hΓ.enter c none p (by intro x; cases x)
    refine wpCode_mono (fun r s' x => ?_) (hc _ p rfl hB (g.enter ok none p))
    cases r with
    | ok f => cases f <;> exact x
    | error e => exact x
theorem wpG_call {f : Value} {pos : List Value} {kw : List (Str × Value)} {Q : Value → Shared → Prop}
    (hc : codeG M A (.call f ⟨pos, kw⟩) (fun f s' => match f with | .ret v => Q v s' | _ => False) s) : wpG M A (call f pos kw) Q s := wpG_runValue rfl hc
theorem wpG_runOwn {c : Code} {env : Env} {Q : Flow → Shared → Prop} (ok : okCode c = true) (hc : codeG M A c Q s) : wpG M A (runOwn c env none) Q s := by
  unfold runOwn
  exact wpG_onRaise (wpG_run ok hc)

theorem codeG_of_tree {c : Code} {R : Flow → Shared → Prop}
    (h : wpG M (A.under c) (M.den c) (fun fin s' => match fin with | .done f => R f s' | .again c' => c'.quiet = true ∧ okCode c' = true ∧ codeG M A c' R s') s) : codeG M A c R s :=
  fun Γ p hc hΓ g => by
    rw [wpCode_iff_wp, hc]
    refine Sem.wp_mono M Γ _ (fun fin p' s' h' => ?_) (fun _ _ _ h' => h'.elim) p s (h Γ p (hc ▸ hΓ.in) g)
    cases fin with
    | done f => exact h'
    | again c' => exact ⟨h'.1, h'.2.2 (Γ.goto c') p' rfl (hΓ.goto c') (g.goto h'.2.1)⟩

theorem codeG_loop {c : Code} {R : Flow → Shared → Prop} (hq : c.quiet = true) (hok : okCode c = true) (I : Nat → Shared → Prop)
    (turn : ∀ n s, I n s → wpG M (A.under c) (M.den c)
      (fun fin s' => match fin with | .done f => R f s' | .again c' => c' = c ∧ ∃ m, m < n ∧ I m s') s)
    (n : Nat) (h : I n s) : codeG M A c R s := by
  induction n using Nat.strongRecOn generalizing s with
  | ind n ih =>
    refine codeG_of_tree (wpG_mono (turn n s h) (fun fin s' hf => ?_))
    cases fin with
    | done f => exact hf
    | again c' => obtain ⟨rfl, m, hm, hI⟩ := hf; exact ⟨hq, hok, ih m hm hI⟩

theorem wpG_stack {Q : List (Code × Pos) → Shared → Prop} (h : ∀ st : List (Code × Pos), (∀ x ∈ st, okCode x.1 = true) → Q st s) : wpG M A stack Q s := fun Γ p _ g => by
  show Q ((Γ.code, p) :: Γ.below) s
  refine h _ (fun x hx => ?_)
  rcases List.mem_cons.mp hx with rfl | hx
  · exact g.1
  · exact g.2 x hx
end

theorem exported_not {M : Model} {A : Around} {s : Shared} {self : Value} {Q : Bool → Shared → Prop} (h : Q false s) : wpG M A (Builtin.Bytes.exported self) Q s := by
  unfold Builtin.Bytes.exported
  refine wpG_bind (wpG_stack fun st hst => wpG_pure ?_)
  have e : (st.any fun
    | (.builtin "bytearray.__contains__" ⟨v :: _, _⟩, _) | (.builtin "bytearray.__mod__" ⟨v :: _, _⟩, _)
    | (.builtin "bytearray.__rmod__" ⟨_ :: v :: _, _⟩, _) | (.builtin "_struct.pack_into.held" ⟨v :: _, _⟩, _) => Builtin.Bytes.sameRef v self
    | (.builtin "bytearray.find.held" ⟨_ :: _ :: held, _⟩, _) => held.any (Builtin.Bytes.sameRef self)
    | (.builtin id ⟨v :: _, _⟩, _) => Builtin.Bytes.sameRef v self && Builtin.Bytes.decodersThatHold.contains id
    | _ => false) = false := by
    rw [List.any_eq_false]
    intro x hx
    have ok := hst x hx
    obtain ⟨c, p⟩ := x
    dsimp only at ok ⊢
    have key : ∀ id args, c = .builtin id args → heldIds.contains id = false := by
      intro id args e
      subst e
      simpa [okCode] using ok
    split
    case h_1 heq => exact absurd (key _ _ (Prod.mk.inj heq).1) (by decide)
    case h_2 heq => exact absurd (key _ _ (Prod.mk.inj heq).1) (by decide)
    case h_3 heq => exact absurd (key _ _ (Prod.mk.inj heq).1) (by decide)
    case h_4 heq => exact absurd (key _ _ (Prod.mk.inj heq).1) (by decide)
    case h_5 heq => exact absurd (key _ _ (Prod.mk.inj heq).1) (by decide)
    case h_6 id v _ _ _ _ _ _ _ _ heq =>
      have := key _ _ (Prod.mk.inj heq).1
      unfold heldIds at this
      simp only [List.contains_cons, Bool.or_eq_false_iff] at this
      rw [this.2.2.2.2.2, Bool.and_false]
      simp
    case h_7 => simp
  exact (congrArg (fun b => Q b s) e).mpr h

end Mine

end

section
open PySem PySem.W PyProof.Rows PySem.Calls
open PySem.Sem (wp)
namespace Mine

/-- the caller's own context -/
def callerC : Ctx := ⟨.builtin "claim.caller" {}, none, none, [], none⟩
theorem caller_good : GoodC callerC := ⟨by decide, fun x hx => nomatch hx⟩

theorem ends_of_wpG {prog : Program} {w : World} {t : Sem Fin} {s : Shared} {R : Result → Shared → Prop} (hreg : s.asleep)
    (h : wpG (model prog w) callerA t (fun fin s' => ∃ f, fin = .done f ∧ (R (.ok f) s' ∧ leftWithCleanup s'.gens = false)) s) :
    ∃ n r s' s'', runN (denote table) prog w n s ⟨t, .builtin "claim.caller" {}, default, []⟩ = .halted (outcomeOf r) s' ∧
      schedN (denote table) prog w n (.single s ⟨t, .builtin "claim.caller" {}, default, []⟩) = .halted (outcomeOf r) s' ∧ s'.forget = s''.forget ∧ R r s'' := by
  have hw : wp (model prog w) callerC t (Sem.finPost (model prog w) callerC fun r s' => R r s' ∧ leftWithCleanup s'.gens = false) (fun e _ s' => R (.error e) s' ∧ leftWithCleanup s'.gens = false) default s := by
    refine Sem.wp_mono (model prog w) callerC t (fun fin p' s' h' => ?_) (fun _ _ _ h' => h'.elim) default s (h callerC default caller_in caller_good)
    obtain ⟨f, rfl, hf⟩ := h'
    exact hf
  obtain ⟨n, r, s₁, s₂, hs, hn, hfo, hR⟩ := wp_halts_full (M := model prog w) (R := R) hreg hw
  exact ⟨n, r, s₂, s₁, hn, hs, hfo, hR⟩

theorem callFrom_of_wpG {c : ClaimW} {tree : List Value → Sem Fin} {w : World} {s : Shared} {free : Addr → Prop} {gens : Prop} {kept : Heap → Prop} (hz : s.asleep) (hgens : s.gens = #[])
    (hspec : ∀ args, c.pre args = true → WData.layableAll args = true →
      ∀ ord : List DictEntry → List DictEntry, (∀ l, (ord l).Perm l) →
      ∃ vs s₁, layAllW c.records (classAt s.heap) w.params ord args s = some (vs, s₁) ∧
        wpG (model c.prog w) callerA (tree vs) (fun fin s' => ∃ f, fin = .done f ∧ (c.Ends s args vs s₁ (.ok f) s' ∧ s'.os = s.os ∧ AllBare s'.gens ∧ kept s'.heap)) s₁) :
    c.CallFrom (fun vs => ⟨tree vs, .builtin "claim.caller" {}, default, []⟩) w free gens kept s := by
  intro args hpre hlay ord hord
  obtain ⟨vs, s₁, hlaid, hcode⟩ := hspec args hpre hlay ord hord
  have hal := layAllW_rest _ _ _ hlaid
  obtain ⟨k, r, s', s'', hrun, hsched, hfo, hcase, hos, hkp⟩ := ends_of_wpG (prog := c.prog) (w := w) (t := tree vs) (s := s₁)
    (R := fun r s' => c.Ends s args vs s₁ r s' ∧ s'.os = s.os ∧ kept s'.heap) (Shared.asleep_of_life hal.2.2.2 hz)
    (wpG_mono hcode (by
      rintro fin s' ⟨f, e, h1, h2, h3, h4⟩
      exact ⟨f, e, ⟨h1, h2, h4⟩, leftWithCleanup_false_of_bare h3⟩))
  obtain ⟨eh, _, _, eo, _⟩ := Shared.forget_eq hfo
  have hcase := ClaimW.Ends.congr eh hcase
  rw [← eh] at hkp
  rw [← eo] at hos
  have hlife : s'.heap.life = s.heap.life := (runN_life _ _ _ hrun).trans hal.2.2.2
  refine ⟨vs, s₁, hlaid, k, _, s', hsched, ?_, (fun _ i x hx => by rw [hgens] at hx; simp at hx), hkp, by rw [hlife], Shared.rest_eq hos⟩
  rcases hcase with ⟨v, rfl, d1, d2, d3, d4, d5⟩ | ⟨e, ob, cls, rfl, d1, d2, d3, d4, d5⟩
  · exact .inl ⟨v, rfl, d1, d2, d3, fun b o y _ => d4 b o y, d5⟩
  · exact .inr ⟨e, ob, cls, rfl, d1, d2, d3, d4, fun b o y _ => d5 b o y⟩

abbrev WalkG (q : Program) (loose : List Str) (XP : (Str → Option Value) → Heap → Prop) (YP : World → Heap → Prop) (r : RowW) (d : DefRec) (kwd : List (Str × PySem.Expr)) : Prop :=
  ∀ (w : World) (s₀ s₁ : Shared) (mg mb : Str → Option Value), Ground q loose r.records XP w s₀ mg mb s₁.heap → YP w s₁.heap → ∀ (a : Addr) (o : Obj) (pm cd doc dV kV : Value), s₁.heap.get? a = some o →
    o.data = .func { docDef d.name d.params d.body d.scope pm cd doc with defaults := dV, kwdefaults := kV } → s₁.heap.CodeRec cd d.name → Dflts mg s₁.heap d.params kwd dV kV → mg d.name = some (.ref a) → s₁.gens = #[] →
    ∀ (args : List WData) (vals : List Value) (as : List Addr), r.claim.pre args = true → WData.layableAll args = true → ReadsAllW r.records (classAt s₀.heap) s₁.heap vals args as → WellAll w.params s₁.heap vals args → (∀ a ∈ as, (a == sysModules) = false) →
      wpG (model r.prog w) callerA (PySem.call (.ref a) vals) (fun v s' => GoodWG r.claim (classAt s₀.heap) (ExcName.means s₀.heap) args s₁ (.ok (.ret v)) s') s₁

theorem open_of_wpG {r : RowW} {tree : List Value → Sem Fin} {q : Program} {loose defs kps : List Str} {writes : Bool} {Xt : Shared → Bool} {XP : (Str → Option Value) → Heap → Prop} {α : Type} {Yf : Shared → α} {Ya : World → α} {YP : World → Heap → Prop} {N : Nat}
    (left : LeftO r.prog q loose Xt Yf Ya N) (hY : ∀ w s, Yf s = Ya w → YP w s.heap) (hYk : ∀ w h h', YP w h → (∀ b o, h.get? b = some o → h'.get? b = some o) → YP w h') (hX : ∀ s, Xt s = true → XP (s.heap.nsMap mainGlobals) s.heap) (hXk : ∀ mg h h', XP mg h → (∀ b o, h.get? b = some o → h'.get? b = some o) → XP mg h')
    (hRf : ∀ s, Xt s = true → RecFacts r.records s.heap) (hwr : (!writes || r.records.isEmpty) = true) (ok : (chainsOk q && opensWell r.prog && (frees r && r.within.isEmpty)) = true) (hb : r.prog.bare) (hw : r.promised)
    (ht : ∀ vs (w : World) (s : Shared) mg f (Q : Fin → Shared → Prop), s.heap.Ns mainGlobals mg → mg r.name = some f → wpG (model r.prog w) callerA (PySem.call f vs) (fun v s' => Q (.done (.ret v)) s') s → wpG (model r.prog w) callerA (tree vs) Q s)
    (pin : ∀ w s, s.heap.isNs mainGlobals = true → Ground q loose [] XP w s (s.heap.nsMap mainGlobals) (s.heap.nsMap builtinsNs) s.heap → ∀ n ∈ defs, isTheDefsW r.prog s.heap n)
    (call : ∀ (w : World) (s₀ s₁ : Shared) (mg mb : Str → Option Value), Ground q loose r.records XP w s₀ mg mb s₁.heap → YP w s₁.heap → ∀ (args : List WData) (vs : List Value) (as : List Addr),
      r.claim.pre args = true → WData.layableAll args = true → Laid r.records w s₀ s₁ args vs as → sysModules < s₀.heap.objs.size → ∃ f, mg r.name = some f ∧
        wpG (model r.prog w) callerA (PySem.call f vs) (fun v s' => GoodWG r.claim (classAt s₀.heap) (ExcName.means s₀.heap) args s₁ (.ok (.ret v)) s') s₁) :
    r.claim.HoldsOpenBy (fun vs => ⟨tree vs, .builtin "claim.caller" {}, default, []⟩) defs kps writes := by
  obtain ⟨ok, k5⟩ := Bool.and_eq_true_iff.mp ok
  obtain ⟨hch, o1⟩ := Bool.and_eq_true_iff.mp ok
  obtain ⟨k5, k6⟩ := Bool.and_eq_true_iff.mp k5
  obtain ⟨hsame, hu, ha, hap, hm⟩ := frees_parts k5
  refine ⟨⟨hb, o1, by show r.makers.map _ = []; rw [hm]; rfl⟩, hw.witness, fun w => ⟨(left.behind hX hch w).1, fun s' hs' => ?_⟩⟩
  obtain ⟨s₀, hf, hg0, s, hT, hz, hgens, hg, G00, y⟩ := (left.behind (XP := fun mg h => XP mg h ∧ RecFacts r.records h) (fun s hs => ⟨hX s hs, hRf s hs⟩) hch w).2 s' hs'
  have G0 : Ground q loose [] XP w s (s.heap.nsMap mainGlobals) (s.heap.nsMap builtinsNs) s.heap := ⟨G00.T, G00.B, G00.D, G00.TE, G00.TD, G00.W, G00.X.1, G00.cls, G00.has, G00.apart, G00.once, G00.K⟩
  have RF := G00.X.2
  have hT' := hT
  refine ⟨s₀, hf, hg0, s, hT, pin w s hg G0, RF.1, RF.2.1, ?_⟩
  have hgens : s.gens = #[] := Array.eq_empty_of_size_eq_zero (beq_iff_eq.mp hgens)
  have G : Ground q loose r.records XP w s _ _ s.heap := RF.ground G0
  refine callFrom_of_wpG (c := r.claim) hz hgens fun args hpre hlay ord hord => ?_
  obtain ⟨⟨vs, s₁⟩, hlaid⟩ := Option.isSome_iff_exists.mp (layAllW_isSome (P := w.params) (ord := ord) G.has args r.args s (pre_splitW hpre).1)
  have keeps := layAllW_keeps _ _ _ hlaid
  have hal := layAllW_rest _ _ _ hlaid
  obtain ⟨as, hrd, hin, hold⟩ := reads_layAllW hord _ _ _ hlaid hlay s₁.heap (fun _ _ e => e)
  have L : Laid r.records w s s₁ args vs as := ⟨⟨ord, hord, hlaid⟩, hrd, hin, hold, keeps, hal.1.trans hgens, hal.2.2.1⟩
  have G₁ := G.keeps hXk keeps
  obtain ⟨f, hf, h⟩ := call w s s₁ _ _ G₁ (hYk _ _ _ (hY w s y) keeps) args vs as hpre hlay L G.low
  have hi := ident_freeW hu ha hap
  have hwi : r.claim.within = [] := List.isEmpty_iff.mp k6
  refine ⟨vs, s₁, hlaid, ht vs w s₁ _ f _ G₁.T.g hf (wpG_mono h fun v s' g => ⟨_, rfl, ?_⟩)⟩
  have z := g.laid (c := r.claim) hsame hwi hi L
  exact ⟨z.1, z.2.1, z.2.2, fun q => ⟨namesKept_of hT' hg kps keeps g.2.1.old, noTable hwr q⟩⟩

end Mine

/-! the head for `wpG`: `open_top`, used below within `Mine`, resolves its head's name to this theorem, which asks for the walk under `wpG` in place of `wpAny` -/
namespace Mine.PySem.W
theorem holds_open {r : OpenRow} {q : Program} {loose : List Str} {Xt : Shared → Bool} {XP : (Str → Option Value) → Heap → Prop} {α : Type} {Yf : Shared → α} {Ya : World → α} {YP : World → Heap → Prop} {d : DefRec} {kwd : List (Str × PySem.Expr)} {N : Nat}
    (left : LeftO r.prog q loose Xt Yf Ya N) (hY : ∀ w s, Yf s = Ya w → YP w s.heap) (hYk : ∀ w h h', YP w h → (∀ b o, h.get? b = some o → h'.get? b = some o) → YP w h')
    (hX : ∀ s, Xt s = true → XP (s.heap.nsMap mainGlobals) s.heap) (hXk : ∀ mg h h', XP mg h → (∀ b o, h.get? b = some o → h'.get? b = some o) → XP mg h')
    (hdef : defOf q r.name = some (d, kwd)) (hp : r.prog.theDef r.name = some (d.params, d.body, d.scope)) (hk : kwWritten? d.params.kwonlyargs d.params.kw_defaults = some kwd) (hRf : ∀ s, Xt s = true → RecFacts r.records s.heap) (hwr : (!r.writes || r.records.isEmpty) = true)
    (k1 : r.wellSaid = true) (ok : (chainsOk q && opensWell r.prog && (frees r.toRowW && r.within.isEmpty)) = true) (hb : r.prog.bare) (hw : r.toRowW.promised)
    (call : WalkG q loose XP YP r.toRowW d kwd) : r.Holds := by
  refine ⟨k1, hw, open_of_wpG (r := r.toRowW) (tree := fun vs => do match ← nsGet mainNs r.name with
      | some f => do ret (← _root_.PySem.call f vs)
      | none => unsupported "claim.caller:no-such-global") left hY hYk hX hXk hRf hwr ok hb hw
    (fun vs w s mg f Q hg hf h => wpG_bindL (wpAny_nsGet hg (by rw [hf]; exact wpG_bind (wpG_mono h fun _ _ x => wpG_pure x))))
    (fun w s hg G n hn => ?_) fun w s₀ s₁ mg mb G Y args vs as hpre hlay L low => ?_⟩
  · obtain rfl : n = r.name := by split at hn <;> simp_all
    exact pinned_of_view hg G hdef hp hk
  · obtain ⟨a, o, pm, cd, doc, dV, kV, h1, h2, h3, h4, h5⟩ := G.fn hdef
    exact ⟨.ref a, h1, call w s₀ s₁ mg mb G Y a o pm cd doc dV kV h2 h3 h4 h5 (defOf_name hdef ▸ h1) L.gens args vs as hpre hlay L.reads L.well (L.low low)⟩
end Mine.PySem.W

namespace Mine
set_option maxRecDepth 100000
set_option maxHeartbeats 8000000
open_top hd for PySem.Challenge.rw_nc0008_01
end Mine

end

section
open PySem PySem.W PyProof.Rows PySem.Calls
open PySem.Sem (wp)
namespace Mine
section
variable {α : Type} {M : Model} {A : Around} {s : Shared} {env : Env}

theorem execsG_nil {Q : Flow → Shared → Prop} (h : Q .next s) : wpG M A (execs [] env) Q s := fun _ _ _ _ => h
theorem execsG_cons {st rest} {Q : Flow → Shared → Prop}
    (h : wpG M A (exec st env) (fun f s' => match f with | .next => wpG M A (execs rest env) Q s' | f => Q f s') s) : wpG M A (execs (st :: rest) env) Q s := fun Γ p hΓ g => by
  rw [execs_cons, Sem.wp_bind']
  refine Sem.wp_mono M Γ _ (fun f p' s' h' => ?_) (fun _ _ _ h' => h') _ _ (h Γ p hΓ g)
  cases f <;> first | exact h' Γ p' hΓ g | exact h'
theorem execsG_leaf {st rest} {Q : Flow → Shared → Prop}
    (h : wpAny M A (exec st env) (fun f s' => match f with | .next => wpG M A (execs rest env) Q s' | f => Q f s') noE s) : wpG M A (execs (st :: rest) env) Q s :=
  execsG_cons (wpG_leaf h)
theorem ifG {test body orelse pos} {Q : Flow → Shared → Prop}
    (h : wpAny M A (isTrue test env (eval test env)) (fun b s₂ => if b then wpG M A (execs body env) Q s₂ else wpG M A (execs orelse env) Q s₂) noE s) :
    wpG M A (exec (.If test body orelse pos) env) Q s := fun Γ p hΓ g => by
  simp only [exec_If, Sem.wp_bind', Sem.wp_cmd_standAt]
  refine Sem.wp_mono M Γ _ (fun b p₂ s₂ h₂ => ?_) (fun _ _ _ h' => h') _ _ (h Γ _ hΓ)
  cases b <;> exact h₂ Γ p₂ hΓ g
theorem assignG {x pos' value pos} {Q : Flow → Shared → Prop}
    (h : wpG M A (eval value env) (fun v s₁ => wpAny M A (storeName env x v) (fun _ => Q .next) noE s₁) s)
    (hs : swapsWith value (some (.Name x pos')) pos.line env = pure false := by rfl) :
    wpG M A (exec (.Assign [.Name x pos'] value pos) env) Q s := fun Γ p hΓ g => by
  simp only [exec_Assign_Name env x pos' value pos hs, Sem.wp_bind', Sem.wp_cmd_standAt, Sem.wp_bindName, Sem.wp_pure']
  exact Sem.wp_mono M Γ _ (fun v _ s₁ h₁ => h₁ Γ _ hΓ) (fun _ _ _ h' => h') _ _ (h Γ _ hΓ g)
theorem exprG {e pos} {Q : Flow → Shared → Prop} (h : wpG M A (eval e env) (fun v s' => match v with | .ref _ => False | _ => Q .next s') s)
    (hi : interactive env = false := by rfl) (hs : swapsWith e none pos.line env = pure false := by rfl) :
    wpG M A (exec (.Expr e pos) env) Q s := by
  rw [exec_Expr env e pos hi hs]
  refine wpG_bind (wpG_standAt (wpG_bind (wpG_mono h (fun v s' h' => ?_))))
  have hv : ∀ a, v ≠ .ref a := fun a hva => by subst hva; exact h'
  rw [dropValue_plain hv]
  refine wpG_pure ?_
  cases v <;> first | exact h' | exact (hv _ rfl).elim
theorem augG {x pos' op value pos} {Q : Flow → Shared → Prop}
    (h : wpAny M A (loadName env x) (fun old s₁ => wpG M A (eval value env) (fun v s₂ => wpG M A (inplaceOp op old v)
      (fun r s₃ => wpAny M A (storeName env x r) (fun _ => Q .next) noE s₃) s₂) s₁) noE s) :
    wpG M A (exec (.AugAssign (.Name x pos') op value pos) env) Q s := fun Γ p hΓ g => by
  simp only [exec_AugAssign_Name, Sem.wp_bind', Sem.wp_holding, Sem.wp_cmd_standAt, Sem.wp_operate, Sem.wp_bindName, Sem.wp_pure']
  exact Sem.wp_mono M Γ _ (fun old p₁ s₁ h₁ => Sem.wp_mono M Γ _ (fun v _ s₂ h₂ => Sem.wp_mono M Γ _ (fun r _ s₃ h₃ => h₃ Γ _ hΓ)
    (fun _ _ _ h' => h') _ _ (h₂ Γ _ hΓ g)) (fun _ _ _ h' => h') _ _ (h₁ Γ p₁ hΓ g)) (fun _ _ _ h' => h') _ _ (h Γ _ hΓ)
theorem binopG {l op r pos} {Q : Value → Shared → Prop}
    (h : wpG M A (eval l env) (fun a s₁ => wpAny M A (eval r env) (fun b s₂ => wpAny M A (binaryOp op a b) Q noE s₂) noE s₁) s) :
    wpG M A (eval (.BinOp l op r pos) env) Q s := fun Γ p hΓ g => by
  simp only [eval_BinOp, Sem.wp_bind', Sem.wp_holding, Sem.wp_cmd_standAt, Sem.wp_operate]
  exact Sem.wp_mono M Γ _ (fun a p₁ s₁ h₁ => Sem.wp_mono M Γ _ (fun b _ s₂ h₂ => h₂ Γ _ hΓ) (fun _ _ _ h' => h') _ _ (h₁ Γ p₁ hΓ))
    (fun _ _ _ h' => h') _ _ (h Γ p hΓ g)
theorem returnG {e pos} {Q : Flow → Shared → Prop} (h : wpG M A (eval e env) (fun v => Q (.ret v)) s) : wpG M A (exec (.Return (some e) pos) env) Q s := fun Γ p hΓ g => by
  simp only [exec_Return_some, Sem.wp_bind', Sem.wp_cmd_standAt, Sem.wp_pure']
  exact h Γ _ hΓ g
theorem whileG {test body orelse pos} {Q : Flow → Shared → Prop} (h : codeG M A (.whileLoop test body orelse env) Q s) :
    wpG M A (exec (.While test body orelse pos) env) Q s := by
  rw [exec_While]; exact wpG_bind (wpG_standAt (wpG_runOwn rfl h))
theorem forG {target iter body orelse pos} {Q : Flow → Shared → Prop}
    (h : wpAny M A (eval iter env) (fun x s₁ => wpAny M A (pyIter x) (fun it s₂ => codeG M A (.forLoop target it body orelse env) Q s₂) noE s₁) noE s)
    (hs : ∀ x, foldedSetIterable iter env x = pure x := by intro _; rfl) :
    wpG M A (exec (.For target iter body orelse pos) env) Q s := by
  rw [exec_For]
  refine wpG_bind (wpG_standAt (wpG_bindL (wpAny_mono h (fun x s₁ h₁ => ?_) fun _ _ x => x)))
  rw [hs x]
  refine wpG_bind (wpG_pure (wpG_bind (wpG_standAt (wpG_bindL (wpAny_holding (wpAny_mono h₁ (fun it s₂ h₂ => ?_) fun _ _ x => x))))))
  exact wpG_runOwn rfl h₂
end

section
variable {prog : Program} {w : World} {A : Around} {s : Shared} {R : Flow → Shared → Prop}
theorem codeG_func {body env} (h : wpG (model prog w) (A.deeper env) (execs body env) (fun f s' => R (.ret (match f with | .ret v => v | _ => .none)) s') s) :
    codeG (model prog w) A (.func body env) R s := by
  refine codeG_of_tree ?_
  show wpG _ (A.deeper env) (do point; match ← (execs body env).onRaise (leaving env) with | .ret v => ret v | _ => ret .none) _ s
  refine wpG_bind (wpG_leaf (wpAny_point ?_))
  refine wpG_bind (wpG_onRaise (wpG_mono h (fun f s' h' => ?_)))
  cases f <;> exact wpG_pure h'
theorem codeG_call_function {a : Addr} {args : Args} {o : Obj} {fd : FuncData} {body : List Stmt} (hroom : A.depth < recursionLimit)
    (ho : s.heap.get? a = some o) (hd' : o.data = .func fd) (hco : fd.scope.isCoroutine = false) (hgen : fd.scope.isGenerator = false) (hbody : fd.body = .stmts body) (hcd : s.heap.CodeRec fd.code fd.qualname)
    (h : wpAny (model prog w) A.in1 (bindArgs fd args) (fun binds s₁ =>
      wpAny (model prog w) A.in1 (newFunctionEnv fd.scope fd.globals fd.closure binds (fd.qualname ++ ".<locals>.") (some a) fd.code none fd.builtins)
        (fun env s₂ => s₂.heap.NoLimit ∧ codeG (model prog w) A (.func body env) R s₂) noE s₁) noE s) :
    codeG (model prog w) A (.call (.ref a) args) R s := by
  refine codeG_of_tree ?_
  show wpG _ A.in1 (callAny (.ref a) args) _ s
  simp only [callAny]
  refine wpG_bindL (wpAny_load ho ?_)
  obtain ⟨c, oc, vs, tq, hc, hoc, hdc, hq⟩ := hcd
  simp only [hd', callFunction, hco, hgen, hbody, hc]
  rw [hc] at h
  refine wpG_bindL (m := field (.ref c) 1) (wpAny_field hoc hdc hq (wpG_bindL (wpAny_pure ?_)))
  exact wpG_bindL (wpAny_mono h (fun binds s₁ h₁ => wpG_bindL (wpAny_mono h₁ (fun env s₂ h₂ => wpG_bindL (wpAny_enterFrame h₂.1 hroom
    (wpG_pure (And.intro rfl ⟨rfl, h₂.2⟩)))) fun _ _ h' => h')) fun _ _ h' => h')

/-- a def without cells, called: its frame stands upon the whole heap at the call -/
theorem codeG_call_def {K : Frag} {a : Addr} {oc : Value} {od : Option Addr} {osl : Array (Option Value)} {name qual : Str} {params : Arguments} {body : List Stmt} {scope : PySem.Scope} {dV kV doc pm cdv ct : Value} {an : Option Addr} {args : List Value} {binds : List (Str × Value)}
    (hroom : A.depth < recursionLimit) (X : K.In s.heap) (ho : K.lookup a = some ⟨oc, od, .func (fnOf name qual params body scope dV kV doc pm an cdv ct), osl⟩) (hlim : s.heap.NoLimit) (hcd : codeIn K cdv qual = true)
    (hbind : BindsTo s (fnOf name qual params body scope dV kV doc pm an cdv ct) ⟨args, []⟩ binds) (hloc : ∀ x ∈ binds, scope.names.lookup x.1 = some .local)
    (h : ∀ h₁, Fr s.heap s.heap.objs.size h₁ (fun x => binds.reverse.lookup x) →
      wpG (model prog w) (A.deeper (envOf qual scope s.heap.objs.size a cdv)) (execs body (envOf qual scope s.heap.objs.size a cdv))
        (fun f s' => R (.ret (match f with | .ret v => v | _ => .none)) s') { s with heap := h₁, toks := s.toks + binds.length })
    (hco : scope.isCoroutine = false) (hgen : scope.isGenerator = false) (hk : scope.kind = .function) (hcell : ∀ x ∈ scope.names, x.2 ≠ .cell) :
    codeG (model prog w) A (.call (.ref a) ⟨args, []⟩) R s := by
  refine codeG_call_function (fd := fnOf name qual params body scope dV kV doc pm an cdv ct) (body := body) hroom (X _ _ ho) rfl hco hgen rfl (codeRec_of X hcd) (hbind _ _ _ _ ?_)
  refine wpAny_newFunctionEnv hcell hloc (fun h₁ hns hsb => ⟨hlim.fresh _ hsb, ?_⟩) hk
  show codeG _ _ (.func body (envOf qual scope s.heap.objs.size a cdv)) _ _
  exact codeG_func (h h₁ ⟨hns, fun b o e => hsb.extBut b o (Nat.ne_of_lt (Heap.lt_size e)) (Heap.get?_push_of_some _ e), Nat.le_refl _⟩)
end
end Mine

end

section
open PySem PySem.W PyProof.Rows PySem.Calls
open PySem.Sem (wp)
set_option maxRecDepth 100000
namespace Mine
abbrev baObj (b : Array UInt8) : Obj := { cls := .type "bytearray", data := .bytearray b }

theorem ba_slot_append : Slot "bytearray" "append" "bytearray.append" :=
  .of (owner := "bytearray") (n := "append") (by rw [typeLookup_type, builtinLookup_eq_fast]; kernel_rfl) (by decide +kernel) (by decide +kernel) (by decide +kernel)
    (by first | exact .inl (by decide +kernel) | exact .inr (by decide +kernel)) (by rw [isSubtype_type]; kernel_rfl)
theorem ba_entry_append : entryFor table "bytearray.append" = some Builtin.«bytearray.append» := by first | exact entryFor_of_tree (by kernel_rfl) | exact entryFor_of_fast (by kernel_rfl)
theorem ba_args_append (a b : Value) : argsOk "bytearray.append" ⟨[a, b], []⟩ := by unfold argsOk; kernel_rfl
theorem ba_type_append : typeOf (.builtin "bytearray.append") = pure (.type "method_descriptor") := by show builtinType _ = _; rw [builtinType_eq_fast]; kernel_rfl
theorem ba_attrs : PlainAttrs "bytearray" :=
  ⟨⟨"bytearray.__getattribute__", by rw [typeLookup_type, builtinLookup_eq_fast]; kernel_rfl, by decide +kernel⟩, by rw [typeLookup_type, builtinLookup_eq_fast]; kernel_rfl⟩
theorem ba_slot_iadd : Slot "bytearray" "__iadd__" "bytearray.__iadd__" :=
  .of (owner := "bytearray") (n := "__iadd__") (by rw [typeLookup_type, builtinLookup_eq_fast]; kernel_rfl) (by decide +kernel) (by decide +kernel) (by decide +kernel)
    (by first | exact .inl (by decide +kernel) | exact .inr (by decide +kernel)) (by rw [isSubtype_type]; kernel_rfl)
theorem ba_entry_iadd : entryFor table "bytearray.__iadd__" = some Builtin.«bytearray.__iadd__» := by first | exact entryFor_of_tree (by kernel_rfl) | exact entryFor_of_fast (by kernel_rfl)
theorem ba_args_iadd (a b : Value) : argsOk "bytearray.__iadd__" ⟨[a, b], []⟩ := by unfold argsOk; kernel_rfl
theorem ba_slot_init : Slot "bytearray" "__init__" "bytearray.__init__" :=
  .of (owner := "bytearray") (n := "__init__") (by rw [typeLookup_type, builtinLookup_eq_fast]; kernel_rfl) (by decide +kernel) (by decide +kernel) (by decide +kernel)
    (by first | exact .inl (by decide +kernel) | exact .inr (by decide +kernel)) (by rw [isSubtype_type]; kernel_rfl)
theorem ba_entry_init : entryFor table "bytearray.__init__" = some Builtin.«bytearray.__init__» := by first | exact entryFor_of_tree (by kernel_rfl) | exact entryFor_of_fast (by kernel_rfl)
theorem ba_lookup_new : ∃ id, typeLookup (.type "bytearray") "__new__" = pure (some (.builtin id)) ∧ id = "bytearray.__new__" := ⟨_, by rw [typeLookup_type, builtinLookup_eq_fast]; kernel_rfl, rfl⟩

end Mine
namespace Mine
section
variable {prog : Program} {w : World} {A : Around} {s : Shared}

theorem codeG_builtin_tree {id : String} {args : Args} {b : Builtin} {R : Flow → Shared → Prop} (hb : entryFor table id = some b)
    (h : wpG (model prog w) (A.under (.builtin id args)) (b args) (fun fin s' => match fin with | .done f => R f s' | .again c' => c'.quiet = true ∧ okCode c' = true ∧ codeG (model prog w) A c' R s') s) :
    codeG (model prog w) A (.builtin id args) R s := by
  refine codeG_of_tree ?_
  show wpG _ _ (match entryFor table id with | some b => b args | none => unsupported ((withoutEnding? id "#data").getD id)) _ s
  rw [hb]; exact h

theorem callG_entry {T : String} {name : Str} {id : String} {b : Builtin} {self : Value} {rest : List Value} {Q : Value → Shared → Prop} (h : Slot T name id) (hT : s.TypeIs self T)
    (hb : entryFor table id = some b) (ok : okCode (.builtin id ⟨self :: rest, []⟩) = true)
    (hc : wpG (model prog w) A.in1 (b ⟨self :: rest, []⟩) (fun fin s' => ∃ v, fin = .done (.ret v) ∧ Q v s') s)
    (ha : argsOk id ⟨self :: rest, []⟩) : wpG (model prog w) A (call (.builtin id) (self :: rest)) Q s := by
  refine wpG_call (codeG_of_tree ?_)
  show wpG _ A.in1 (do checkBuiltinCall id ⟨self :: rest, []⟩; again (.builtin id ⟨self :: rest, []⟩)) _ s
  refine wpG_bindL (h.check _ _ _ _ _ _ _ _ hT ha (wpG_pure ⟨plainId_quiet h.plain _, ok, codeG_builtin_tree hb ?_⟩))
  rw [Around.under_plainId h.plain _]
  refine wpG_mono hc (fun fin s' h' => ?_)
  obtain ⟨v, rfl, hv⟩ := h'; exact hv

theorem exportsOf_at {B : Addr} {b : Array UInt8} {Q : Nat → Shared → Prop} (hB : s.heap.get? B = some (baObj b)) (h : Q 0 s) : wpG (model prog w) A (Builtin.Bytes.exportsOf (.ref B)) Q s := by
  unfold Builtin.Bytes.exportsOf
  exact wpG_bindL (wpAny_load hB (wpG_pure h))
theorem checkResize_at {B : Addr} {b : Array UInt8} {Q : Unit → Shared → Prop} (hB : s.heap.get? B = some (baObj b)) (h : Q () s) : wpG (model prog w) A (Builtin.Bytes.checkResize (.ref B)) Q s := by
  unfold Builtin.Bytes.checkResize
  refine wpG_bind ?_
  unfold orM
  refine wpG_bind (exported_not ?_)
  show wpG _ _ (Builtin.Bytes.exportsOf (.ref B) >>= _) _ s
  refine wpG_bind (exportsOf_at hB (wpG_pure ?_))
  exact wpG_pure h

theorem write_at {B : Addr} {b : Array UInt8} {f : Array UInt8 → Array UInt8} {Q : Unit → Shared → Prop} (hB : s.heap.get? B = some (baObj b)) (hz : (f b).size ≤ sizeLine)
    (h : ∀ h', Heap.SameBut B s.heap h' → h'.get? B = some (baObj (f b)) → Q () { s with heap := h' }) : wpAny (model prog w) A (Builtin.Bytes.write (.ref B) f) Q noE s := by
  show wpAny _ _ (updateBytearray B f) _ _ _
  unfold updateBytearray
  refine wpAny_bind (wpAny_load hB ?_)
  show wpAny _ _ (update B (Obj.mapBytearray f) >>= fun _ => lookBehind B) _ _ _
  refine wpAny_bind (wpAny_update hB ?_)
  have h2 : (s.heap.update B (Obj.mapBytearray f)).get? B = some (baObj (f b)) := Heap.get?_update_self (Obj.mapBytearray f) hB rfl
  refine wpAny_lookBehind h2 ?_ (h _ (Heap.SameBut.update ..) h2)
  show (if (f b).size > sizeLine then some "bytearray:memory" else none) = none
  rw [if_neg (by omega)]

theorem ba_append {B : Addr} {b : Array UInt8} {c : Int} {t : Tok} {Q : Value → Shared → Prop} (hB : s.heap.get? B = some (baObj b)) (h0 : 0 ≤ c) (h1 : c < 256) (hz : b.size < sizeLine)
    (h : ∀ h', Heap.SameBut B s.heap h' → h'.get? B = some (baObj (b.push c.toNat.toUInt8)) → Q .none { s with heap := h' }) :
    wpG (model prog w) A (call (.builtin "bytearray.append") [.ref B, .int c t]) Q s := by
  refine callG_entry ba_slot_append ⟨_, hB, rfl⟩ ba_entry_append (by show (!heldIds.contains "bytearray.append") = true; decide) ?_ (ba_args_append _ _)
  unfold Builtin.«bytearray.append»
  refine wpG_bindL (wpAny_of_eq (a := (.ref B, .int c t)) rfl ?_)
  refine wpG_bindL (m := Builtin.Bytes.byteValue (.int c t)) ?_
  · unfold Builtin.Bytes.byteValue
    refine wpAny_bind (wpAny_of_eq (rfl : asIndex (.int c t) = pure c) ?_)
    refine bm_if_false (by simp only [Bool.or_eq_false_iff, decide_eq_false_iff_not]; omega) ?_
    refine wpAny_pure ?_
    refine wpG_bind (checkResize_at hB ?_)
    refine wpG_bindL (write_at hB (by simp only [Array.size_push]; omega) fun h' hs hB' => ?_)
    exact wpG_pure ⟨_, rfl, h h' hs hB'⟩

theorem takeQuiet_bytes {id : String} {c : Array UInt8} {t : Tok} : Builtin.Bytes.takeBufferQuiet? id (.bytes c t) 0 = pure (some (c, none)) := by
  unfold Builtin.Bytes.takeBufferQuiet? Builtin.Bytes.takeBuffer?
  have e : Builtin.Bytes.buffer? id (.bytes c t) ((0 : Int) == Builtin.Bytes.fullReadOnly) = Builtin.Bytes.buffer? id (.bytes c t) := rfl
  rw [KBy.special_eq KBy.look_buffer, KBy.own_buffer, e, KBy.buffer_eq]
  kernel_rfl

theorem ba_iadd {B : Addr} {b c : Array UInt8} {t : Tok} {Q : Value → Shared → Prop} (hB : s.heap.get? B = some (baObj b)) (hz : b.size + c.size ≤ sizeLine)
    (h : ∀ h', Heap.SameBut B s.heap h' → h'.get? B = some (baObj (b ++ c)) → Q (.ref B) { s with heap := h' }) :
    wpG (model prog w) A (call (.builtin "bytearray.__iadd__") [.ref B, .bytes c t]) Q s := by
  refine callG_entry ba_slot_iadd ⟨_, hB, rfl⟩ ba_entry_iadd (by show (!heldIds.contains "bytearray.__iadd__") = true; decide) ?_ (ba_args_iadd _ _)
  unfold Builtin.«bytearray.__iadd__»
  refine wpG_bindL (wpAny_of_eq (a := (.ref B, [.bytes c t])) rfl ?_)
  refine wpG_bindL (wpAny_of_eq takeQuiet_bytes ?_)
  show wpG _ _ (do
    if !c.isEmpty then
      if Builtin.Bytes.sameRef (.ref B) (.bytes c t) then
        rule "bytearray.__iadd__.itself"; raiseError "BufferError" "Existing exports of data: object cannot be re-sized"
      Builtin.Bytes.checkResize (.ref B)
    if Builtin.Bytes.tooLong ((← Builtin.Bytes.payload (.ref B)).size + c.size) then unsupported "bytearray.__iadd__:memory"
    Builtin.Bytes.write (.ref B) (· ++ c)
    ret (.ref B)) _ _
  have fin : ∀ Q' : Fin → Shared → Prop, (∀ h', Heap.SameBut B s.heap h' → h'.get? B = some (baObj (b ++ c)) → Q' (.done (.ret (.ref B))) { s with heap := h' }) →
      wpG (model prog w) A.in1 (do
        if Builtin.Bytes.tooLong ((← Builtin.Bytes.payload (.ref B)).size + c.size) then unsupported "bytearray.__iadd__:memory"
        Builtin.Bytes.write (.ref B) (· ++ c)
        ret (.ref B)) Q' s := by
    intro Q' hQ
    unfold Builtin.Bytes.payload Builtin.Bytes.payload?
    refine wpG_bindL (wpAny_bind (wpAny_bind (wpAny_load hB (wpAny_pure (wpAny_pure ?_)))))
    refine wpG_if_false (by rw [KBy.tooLong_not (by rw [sizeLine_eq] at hz; exact hz)]; decide) ?_
    refine wpG_bindL (write_at hB (by simpa using hz) fun h' hs hB' => wpG_pure (hQ h' hs hB'))
  cases hc : c.isEmpty with
  | true => exact fin _ fun h' hs hB' => ⟨_, rfl, h h' hs hB'⟩
  | false =>
    refine wpG_if_true (by simp) ?_
    refine wpG_if_false (by simp [Builtin.Bytes.sameRef]) ?_
    refine wpG_bind (checkResize_at hB ?_)
    exact fin _ fun h' hs hB' => ⟨_, rfl, h h' hs hB'⟩
end
end Mine

end

section
open PySem PySem.W PyProof.Rows PySem.Calls
open PySem.Sem (wp)
set_option maxRecDepth 100000
namespace Mine
section
variable {M : Model} {prog : Program} {w : World} {A : Around} {s : Shared} {E : Value → Shared → Prop}
theorem ba_look_add : typeLookup (.type "bytearray") (dunder "add") = pure (some (.builtin "bytearray.__add__")) := by rw [typeLookup_type, builtinLookup_eq_fast]; kernel_rfl
theorem ba_look_radd : typeLookup (.type "bytearray") (dunderR "add") = pure none := by rw [typeLookup_type, builtinLookup_eq_fast]; kernel_rfl
theorem ba_noFill : fillsNumberSlot (.type "bytearray") "add" = pure false := PySem.fillsNumberSlot_seq ba_look_add (by decide +kernel) ba_look_radd rfl
theorem ba_look_iadd : typeLookup (.type "bytearray") (dunderI "add") = pure (some (.builtin "bytearray.__iadd__")) := by rw [typeLookup_type, builtinLookup_eq_fast]; kernel_rfl
theorem ba_fillsI : fillsInplaceSlot (.type "bytearray") "add" (Operator.Add == .Add) = pure false := by
  unfold fillsInplaceSlot
  show (typeLookup (.type "bytearray") (dunderI "add") >>= fun fi => pure (fi.isSome && !isSeqSlot fi)) = pure false
  rw [ba_look_iadd]
  have : isSeqSlot (some (.builtin "bytearray.__iadd__")) = true := by decide +kernel
  simp [this]
theorem ba_seq_iadd : seqSlot? (.type "bytearray") (dunderI "add") = pure (some (.builtin "bytearray.__iadd__")) := PySem.seqSlot_of ba_look_iadd (by decide +kernel)

theorem binop1_none {a b : Value} {Ta Tb : String} {Q : Option Value → Shared → Prop} (ha : s.TypeIs a Ta) (hb : s.TypeIs b Tb) (hab : (Value.type Ta == Value.type Tb) = false)
    (hfa : fillsNumberSlot (.type Ta) "add" = pure false) (hfb : fillsNumberSlot (.type Tb) "add" = pure false) (h : Q none s) : wpAny M A (binaryOp1 "add" a b) Q E s := by
  simp only [binaryOp1]
  refine wpAny_bind (wpAny_typeOf ha (wpAny_bind (wpAny_typeOf hb (wpAny_bind (wpAny_of_eq hfa ?_)))))
  simp only [hab, Bool.false_eq_true, if_false]
  refine wpAny_bind (wpAny_of_eq hfb ?_)
  simp only [pure_bind, Bool.false_and, Bool.and_false, Bool.false_eq_true, if_false]
  exact wpAny_pure h

theorem inplace_ba {B : Addr} {b c : Array UInt8} {t : Tok} {Q : Value → Shared → Prop} (hB : s.heap.get? B = some (baObj b)) (hz : b.size + c.size ≤ sizeLine)
    (h : ∀ h', Heap.SameBut B s.heap h' → h'.get? B = some (baObj (b ++ c)) → Q (.ref B) { s with heap := h' }) :
    wpG (model prog w) A (inplaceOp .Add (.ref B) (.bytes c t)) Q s := by
  have hT : s.TypeIs (.ref B) "bytearray" := ⟨_, hB, rfl⟩
  unfold inplaceOp
  refine wpG_holding ?_
  refine wpG_bindL (wpAny_typeOf hT ?_)
  refine wpG_bindL (wpAny_of_eq ba_fillsI ?_)
  refine wpG_if_false (by simp) ?_
  refine wpG_bindL (binop1_none hT (typeIs_bytes _ _ _) (by decide) ba_noFill KBy.noFill_bytes_add ?_)
  refine wpG_bindL (wpAny_of_eq ba_seq_iadd ?_)
  refine wpG_bindL (wpAny_rule ?_)
  exact ba_iadd hB hz h

theorem ba_mro : mroOf (.type "bytearray") = pure [.type "bytearray", .type "object"] := by rw [mroOf_type]; kernel_rfl
theorem ba_lookup_new' : typeLookup (.type "bytearray") "__new__" = pure (some (.builtin "bytearray.__new__")) := by rw [typeLookup_type, builtinLookup_eq_fast]; kernel_rfl
theorem ba_called : TypeCalled "bytearray" "bytearray.__new__" "bytearray.__init__" :=
  ⟨by decide +kernel, by decide +kernel, ⟨_, _, ba_mro⟩, madeBy_type ba_mro ba_lookup_new' (by decide +kernel), by decide +kernel, by rw [isSubtype_type]; kernel_rfl, ba_slot_init⟩
theorem ba_typeCall : checkTypeCall "bytearray" ⟨[], []⟩ = pure () := by kernel_rfl
theorem ba_newCall : checkBuiltinCall "bytearray.__new__" ⟨[.type "bytearray"], []⟩ = pure () := by kernel_rfl
theorem ba_entry_new : entryFor table "bytearray.__new__" = some Builtin.«list.__new__» := entryFor_alias (id' := "list.__new__") (by kernel_rfl) rfl (by decide +kernel) (by kernel_rfl)
theorem ba_plain_new : plainId "bytearray.__new__" = true := by decide +kernel
set_option maxRecDepth 1000000 in
set_option maxHeartbeats 4000000 in
theorem ba_owner_new : ("bytearray.__new__".splitOn ".__new__").headD "" = "bytearray" := by simp +decide [String.splitOn, String.splitOnAux]
theorem ba_sub_self : isSubtype (.type "bytearray") (.type "bytearray") = pure true := by rw [isSubtype_type]; kernel_rfl

theorem ba_new {Q₁ : Value → Shared → Prop} (h : Q₁ (.ref s.heap.objs.size) { s with heap := s.heap.push (baObj #[]) }) :
    codeAny (model prog w) A (.call (.builtin "bytearray.__new__") ⟨[.type "bytearray"], []⟩) (wants Q₁ E) s := by
  refine codeAny_of_tree ?_
  show wpAny _ A.in1 (do checkBuiltinCall "bytearray.__new__" ⟨[.type "bytearray"], []⟩; again (.builtin "bytearray.__new__" ⟨[.type "bytearray"], []⟩)) _ _ s
  refine wpAny_bind (wpAny_of_eq ba_newCall (wpAny_pure ⟨plainId_quiet ba_plain_new _, codeAny_builtin_stack ba_entry_new rfl fun p st => ?_⟩))
  rw [Around.under_plainId ba_plain_new _]
  have hsub := ba_sub_self
  have hown := ba_owner_new
  obtain ⟨hp, g, d, tk, os⟩ := s
  simp only [hown]
  wp_walk
  exact h
end
end Mine

end

section
open PySem PySem.W PyProof.Rows PySem.Calls
open PySem.Sem (wp)
set_option maxRecDepth 100000
namespace Mine
section
variable {M : Model} {prog : Program} {w : World} {A : Around} {s : Shared} {E : Value → Shared → Prop}

theorem ba_look_release : typeLookup (.type "bytearray") "__release_buffer__" = pure (some (.builtin "bytearray.__release_buffer__")) := by rw [typeLookup_type, builtinLookup_eq_fast]; kernel_rfl

theorem ba_ownRelease {B : Addr} {Q : Bool → Shared → Prop} (hT : s.TypeIs (.ref B) "bytearray") (h : Q false s) : wpAny M A (Builtin.Bytes.ownRelease (.ref B)) Q E s := by
  unfold Builtin.Bytes.ownRelease Builtin.Bytes.slotIsOwn
  refine wpAny_bind (wpAny_bind (wpAny_specialOf hT ba_look_release ?_))
  dsimp only
  refine bm_if_false (by decide +kernel) ?_
  have e : "bytearray.__release_buffer__".dropRight ("__release_buffer__".length + 1) = "bytearray" := by decide +kernel
  rw [e]
  exact wpAny_isInstance hT ba_sub_self (wpAny_pure h)
theorem ba_bind0 : Builtin.Bytes.bindOptional "bytearray.__init__" "bytearray" ["source", "encoding", "errors"] [] [] = pure [none, none, none] := by kernel_rfl

theorem ba_init {B : Addr} {Q : Value → Shared → Prop} (hB : s.heap.get? B = some (baObj #[]))
    (h : ∀ h', Heap.SameBut B s.heap h' → h'.get? B = some (baObj #[]) → Q .none { s with heap := h' }) :
    wpG (model prog w) A (call (.builtin "bytearray.__init__") [.ref B]) Q s := by
  have hT : s.TypeIs (.ref B) "bytearray" := ⟨_, hB, rfl⟩
  refine callG_entry ba_slot_init hT ba_entry_init (by show (!heldIds.contains "bytearray.__init__") = true; decide) ?_ (by unfold argsOk; kernel_rfl)
  unfold Builtin.«bytearray.__init__»
  refine wpG_bindL (ba_ownRelease hT ?_)
  refine wpG_if_false (by decide) ?_
  refine wpG_bindL (wpAny_of_eq ba_bind0 ?_)
  refine wpG_bindL (wpAny_of_eq (a := ()) rfl ?_)
  refine wpG_bindL (wpAny_of_eq (a := ()) rfl ?_)
  refine wpG_bind ?_
  unfold orM
  refine wpG_bind (exported_not ?_)
  show wpG _ _ (Builtin.Bytes.exportsOf (.ref B) >>= _) _ s
  refine wpG_bind (exportsOf_at hB (wpG_pure ?_))
  refine wpG_if_false (by decide) ?_
  refine wpG_bindL (write_at hB (by decide) fun h' hs hB' => ?_)
  refine wpG_bindL (wpAny_of_eq (a := ()) rfl ?_)
  exact wpG_pure ⟨_, rfl, h h' hs hB'⟩

theorem call_bytearray {Q : Value → Shared → Prop}
    (h : ∀ h', (∀ b o, s.heap.get? b = some o → h'.get? b = some o) → h'.get? s.heap.objs.size = some (baObj #[]) → Q (.ref s.heap.objs.size) { s with heap := h' }) :
    wpG (model prog w) A (call (.type "bytearray") []) Q s := by
  refine wpG_call (codeG_of_tree ?_)
  show wpG _ _ (callAny (.type "bytearray") _) _ _
  refine wpG_pure ⟨Code.quiet_builtin _ (by decide +kernel), by show (!heldIds.contains "type.__call__") = true; decide, codeG_builtin_tree F.entry_type_call ?_⟩
  rw [Around.under_plain (weight_type_call_type "bytearray" [] []) (units_type_call_type "bytearray" [] [])]
  unfold Builtin.«type.__call__»
  refine wpG_if_false (by decide) ?_
  dsimp only
  refine wpG_if_false (by rw [ba_called.canCreate]; decide) ?_
  refine wpG_bindL (wpAny_of_eq ba_typeCall ?_)
  refine wpG_bindL (wpAny_of_eq ba_mro ?_)
  refine wpG_if_false (by decide) ?_
  refine wpG_bindL (wpAny_of_eq ba_called.made ?_)
  dsimp only
  refine wpG_bindL (wpAny_pure ?_)
  refine wpG_bindL (wpAny_holding (wpAny_call (codeAny_mono (ba_new (E := noE) (Q₁ := fun v s' => v = .ref s.heap.objs.size ∧ s' = { s with heap := s.heap.push (baObj #[]) }) ⟨rfl, rfl⟩) fun r s' hr => ?_)))
  cases r with
  | error e => exact hr
  | ok fl =>
    cases fl with
    | ret obj =>
      obtain ⟨rfl, rfl⟩ := hr
      have hB : ({ s with heap := s.heap.push (baObj #[]) } : Shared).heap.get? s.heap.objs.size = some (baObj #[]) := Heap.get?_push_size _ rfl
      have hT : ({ s with heap := s.heap.push (baObj #[]) } : Shared).TypeIs (.ref s.heap.objs.size) "bytearray" := ⟨_, hB, rfl⟩
      refine wpG_bindL (wpAny_isInstance hT ba_sub_self ?_)
      refine wpG_if_false (by decide) ?_
      refine wpG_bind (wpG_holding ?_)
      unfold callSpecial?
      refine wpG_bindL (wpAny_specialOf hT ba_slot_init.lookup ?_)
      refine wpG_holding ?_
      refine wpG_bindL (wpAny_of_eq (ba_slot_init.bind _) ?_)
      refine wpG_bind (ba_init hB fun h' hs hB' => ?_)
      refine wpG_pure ?_
      refine wpG_if_false (by decide) ?_
      refine wpG_pure ?_
      refine h h' (fun b o e => ?_) hB'
      exact hs.extBut b o (Nat.ne_of_lt (Heap.lt_size e)) (Heap.get?_push_of_some _ e)
    | next => exact hr
    | brk => exact hr
    | cont => exact hr
end
end Mine

end

section
open PySem PySem.W PyProof.Rows PySem.Calls
open PySem.Sem (wp)
set_option maxRecDepth 100000
namespace Mine
section
variable {M : Model} {prog : Program} {w : World} {A : Around} {s : Shared} {E : Value → Shared → Prop}
theorem ba_no_bytes : typeLookup (.type "bytearray") "__bytes__" = pure none := by rw [typeLookup_type, builtinLookup_eq_fast]; kernel_rfl
theorem ba_no_index : typeLookup (.type "bytearray") "__index__" = pure none := by rw [typeLookup_type, builtinLookup_eq_fast]; kernel_rfl
theorem ba_look_buffer : typeLookup (.type "bytearray") "__buffer__" = pure (some (.builtin "bytearray.__buffer__")) := by rw [typeLookup_type, builtinLookup_eq_fast]; kernel_rfl

theorem ba_ownBuffer {B : Addr} {Q : Bool → Shared → Prop} (hT : s.TypeIs (.ref B) "bytearray") (h : Q true s) : wpAny M A (Builtin.Bytes.slotIsOwn (.ref B) "__buffer__") Q E s := by
  unfold Builtin.Bytes.slotIsOwn
  refine wpAny_bind (wpAny_specialOf hT ba_look_buffer ?_)
  dsimp only
  refine bm_if_false (by decide +kernel) ?_
  have e : "bytearray.__buffer__".dropRight ("__buffer__".length + 1) = "bytearray" := by decide +kernel
  rw [e]
  exact wpAny_isInstance hT ba_sub_self h
theorem ba_buffer {B : Addr} {b : Array UInt8} {id : String} {full : Bool} {Q : Option (Array UInt8) → Shared → Prop} (hB : s.heap.get? B = some (baObj b)) (h : Q (some b) s) : wpAny M A (Builtin.Bytes.buffer? id (.ref B) full) Q E s := by
  have hT : s.TypeIs (.ref B) "bytearray" := ⟨_, hB, rfl⟩
  unfold Builtin.Bytes.buffer?
  refine wpAny_bind (wpAny_specialOf hT ba_look_buffer ?_)
  refine wpAny_bind (ba_ownBuffer hT ?_)
  refine bm_if_false (by decide) ?_
  refine wpAny_bind (wpAny_specialOf hT ba_look_buffer ?_)
  refine wpAny_bind (ba_ownRelease hT ?_)
  refine bm_if_false (by decide) ?_
  unfold Builtin.Bytes.payload Builtin.Bytes.payload?
  exact wpAny_bind (wpAny_bind (wpAny_bind (wpAny_load hB (wpAny_pure (wpAny_pure (wpAny_pure h))))))

theorem ba_bytes_new {B : Addr} {b : Array UInt8} {Q : Value → Shared → Prop} (hB : s.heap.get? B = some (baObj b)) (hz : b.size ≤ sizeLine)
    (hQ : ∀ t k, Q (.bytes b t) { s with toks := k }) :
    codeAny (model prog w) A (.call (.builtin "bytes.__new__") ⟨[.type "bytes", .ref B], []⟩) (wants Q E) s := by
  refine codeAny_of_tree ?_
  show wpAny _ A.in1 (do checkBuiltinCall "bytes.__new__" ⟨[.type "bytes", .ref B], []⟩; again (.builtin "bytes.__new__" ⟨[.type "bytes", .ref B], []⟩)) _ _ s
  refine wpAny_bind (wpAny_of_eq (F.bm_newCall _) (wpAny_pure ⟨plainId_quiet F.bm_plain _, codeAny_builtin F.bm_entry ?_⟩))
  rw [Around.under_plainId F.bm_plain _]
  have hT : s.TypeIs (.ref B) "bytearray" := ⟨_, hB, rfl⟩
  unfold Builtin.«bytes.__new__»
  refine wpAny_bind (wpAny_of_eq (a := true) rfl ?_)
  refine bm_if_false rfl ?_
  refine wpAny_bind (wpAny_of_eq F.bm_sub ?_)
  refine bm_if_false rfl ?_
  refine wpAny_bind (wpAny_of_eq (F.bm_bind _) ?_)
  refine wpAny_bind (wpAny_of_eq (a := ()) rfl ?_)
  refine wpAny_bind (wpAny_of_eq (a := ()) rfl ?_)
  refine bm_if_false rfl ?_
  refine wpAny_bind (wpAny_specialOf hT ba_no_bytes ?_)
  refine wpAny_bind (wpAny_bind ?_)
  show wpAny _ _ (load B >>= _) _ _ _
  refine wpAny_bind (wpAny_load hB ?_)
  refine wpAny_pure (wpAny_pure ?_)
  refine bm_if_false rfl ?_
  refine wpAny_bind (wpAny_specialOf hT ba_no_index ?_)
  refine bm_if_true rfl ?_
  first
    | show wpAny _ _ (Builtin.Bytes.buffer? "bytes.__new__" (.ref B) true >>= _) _ _ _
    | (refine wpAny_bind ?_; show wpAny _ _ (Builtin.Bytes.buffer? "bytes.__new__" (.ref B) true >>= _) _ _ _)
  refine wpAny_bind (ba_buffer hB ?_)
  refine wpAny_bind (wpAny_rule ?_)
  refine wpAny_bind (wpAny_mkBytes ?_ hz)
  show wpAny _ _ (if (Value.type "bytes" == Value.type "bytes") = true then _ else _) _ _ _
  refine bm_if_true (by decide) ?_
  first
    | exact wpAny_pure (hQ _ _)
    | exact wpAny_bind (wpAny_pure (wpAny_pure (hQ _ _)))

/-- bytes(out): the bytearray's octets -/
theorem call_bytes_ba {B : Addr} {b : Array UInt8} {Q : Value → Shared → Prop} (hB : s.heap.get? B = some (baObj b)) (hz : b.size ≤ sizeLine)
    (hQ : ∀ t k, Q (.bytes b t) { s with toks := k }) : wpAny (model prog w) A (call (.type "bytes") [.ref B]) Q E s := by
  refine callType_codes (Q₁ := fun obj s₁ => s₁.TypeIs obj "bytes" ∧ Q obj s₁) F.bm_called (F.bm_typeCall _) F.entry_object_init
    (ba_bytes_new hB hz fun t k => ⟨PySem.W.typeIs_bytes _ _ _, hQ t k⟩) fun obj s₁ h₁ => ?_
  exact ⟨h₁.1, F.args_object_init_2 obj _, object_init_meets F.bm_called.init.lookup F.bm_called.made (by decide) prog w A.in1 _ s₁ ⟨h₁.1, rfl, h₁.2⟩⟩

end
section
variable {M : Model} {A : Around} {s : Shared} {env : Env}
theorem wpG_keep {α : Type} {vs : List Value} {m : Sem α} {Q : α → Shared → Prop} (h : wpG M A m Q s) : wpG M A (m.keep vs) Q s :=
  fun Γ p hΓ g => by rw [Sem.wp_keep]; exact h Γ p hΓ g
theorem evalArgs1G {f : Value} {t : Sem Value} {Q : Args → Shared → Prop} (h : wpG M A t (fun v s' => Q ⟨[v], []⟩ s') s) : wpG M A (evalArgs f true [(false, t)] []) Q s := by
  unfold evalArgs
  show wpG M A (spliced [(false, t)] >>= _) Q s
  refine wpG_bind ?_
  rw [spliced]
  refine wpG_bind (wpG_mono h (fun v s₁ h₁ => ?_))
  simp only [Bool.false_eq_true, if_false]
  refine wpG_bind (wpG_pure (wpG_bind (wpG_holding ?_)))
  refine wpG_pure (wpG_pure ?_)
  refine wpG_holding ?_
  exact wpG_bind (wpG_pure (wpG_bind (wpG_pure (wpG_pure h₁))))
theorem evalArgs0G {f : Value} {Q : Args → Shared → Prop} (h : Q ⟨[], []⟩ s) : wpG M A (evalArgs f true [] []) Q s := wpG_leaf (PySem.evalArgs_none h)
theorem callWithG_builtin {pos : Pos} {id : String} {first : List Value} {args : List (Bool × Sem Value)} {Q : Value → Shared → Prop} (hplain : args.any (·.1) = false)
    (h : wpG M A (evalArgs (.builtin id) true args []) (fun a s₁ => wpG M A (call (.builtin id) (first ++ a.pos) a.kw) Q s₁) s) :
    wpG M A (callWith pos (.builtin id) first args []) Q s := by
  unfold callWith
  refine wpG_bind (wpG_holding (wpG_mono h (fun a s₁ h₁ => wpG_bind (wpG_standAt ?_))))
  simp only [hplain, List.any_nil, Bool.or_false]
  refine wpG_bind (wpG_pure ?_)
  exact wpG_bind (wpG_mono h₁ (fun r s₂ hr => wpG_bind (wpG_holding (wpG_leaf (wpAny_point (wpG_pure hr))))))
theorem callWithG_type {pos : Pos} {T : String} {first : List Value} {args : List (Bool × Sem Value)} {Q : Value → Shared → Prop} (hplain : args.any (·.1) = false)
    (h : wpG M A (evalArgs (.type T) true args []) (fun a s₁ => wpG M A (call (.type T) (first ++ a.pos) a.kw) Q s₁) s) :
    wpG M A (callWith pos (.type T) first args []) Q s := by
  unfold callWith
  refine wpG_bind (wpG_holding (wpG_mono h (fun a s₁ h₁ => wpG_bind (wpG_standAt ?_))))
  simp only [hplain, List.any_nil, Bool.or_false]
  refine wpG_bind (wpG_pure ?_)
  exact wpG_bind (wpG_mono h₁ (fun r s₂ hr => wpG_bind (wpG_holding (wpG_leaf (wpAny_point (wpG_pure hr))))))
theorem callWithG_function {pos : Pos} {a : Addr} {o : Obj} {fd : FuncData} {t : Sem Value} {Q : Value → Shared → Prop}
    (h : wpG M A t (fun v s₁ => (s₁.heap.get? a = some o ∧ o.data = .func fd) ∧ wpG M A (call (.ref a) [v]) Q s₁) s) :
    wpG M A (callWith pos (.ref a) [] [(false, t)] []) Q s := by
  unfold callWith
  refine wpG_bind (wpG_holding (evalArgs1G (wpG_mono h (fun v s₁ h₁ => wpG_bind (wpG_standAt ?_)))))
  refine wpG_bind (m := keeperOf (.ref a)) ?_
  unfold keeperOf
  refine wpG_bindL (wpAny_load h₁.1.1 ?_)
  rw [h₁.1.2]
  refine wpG_pure ?_
  refine wpG_if_false (by show ¬ (1 + 2 * 0 > 30); decide) ?_
  refine wpG_bind ?_
  unfold callMarked
  refine wpG_keep (wpG_mono h₁.2 fun r s₂ hr => ?_)
  exact wpG_bind (wpG_holding (wpG_leaf (wpAny_point (wpG_pure hr))))
/-- f(e), f a name -/
theorem callNameG {x : Str} {px : Pos} {e : PySem.Expr} {pos : Pos} {Q : Value → Shared → Prop}
    (h : wpAny M A (eval (.Name x px) env) (fun f s₁ => wpG M A (callWith pos f [] [(false, eval e env)] []) Q s₁) noE s)
    (ht : backTo pos (starEach [e] env) = [(false, eval e env)] := by rfl)
    (he : eval (.Call (.Name x px) [e] [] pos) env = (do callWith pos (← eval (.Name x px) env) [] (backTo pos (starEach [e] env)) (backToKw pos (keywordEach [] env))) := by rfl) :
    wpG M A (eval (.Call (.Name x px) [e] [] pos) env) Q s := by
  rw [he, ht]; exact wpG_bindL h
theorem callName0G {x : Str} {px : Pos} {pos : Pos} {Q : Value → Shared → Prop}
    (h : wpAny M A (eval (.Name x px) env) (fun f s₁ => wpG M A (callWith pos f [] [] []) Q s₁) noE s)
    (ht : backTo pos (starEach [] env) = [] := by rfl)
    (he : eval (.Call (.Name x px) [] [] pos) env = (do callWith pos (← eval (.Name x px) env) [] (backTo pos (starEach [] env)) (backToKw pos (keywordEach [] env))) := by rfl) :
    wpG M A (eval (.Call (.Name x px) [] [] pos) env) Q s := by
  rw [he, ht]; exact wpG_bindL h
theorem methodG {o e : PySem.Expr} {name : Str} {apos pos : Pos} {pl : Sem Bool} {Q : Value → Shared → Prop}
    (h : wpAny M A (eval o env) (fun ov s₁ => wpAny M A (getMethod ov name pl) (fun fx s₂ => wpG M A (callWith pos fx.1 fx.2 [(false, eval e env)] []) Q s₂) noE s₁) noE s)
    (ht : backTo pos (starEach [e] env) = [(false, eval e env)] := by rfl)
    (he : eval (.Call (.Attribute o name apos) [e] [] pos) env = (do
      let ov ← eval o env
      standAt apos.atName
      let (f, first) ← holding [ov] (getMethod ov name pl)
      callWith pos f first (backTo pos (starEach [e] env)) []) := by rfl) :
    wpG M A (eval (.Call (.Attribute o name apos) [e] [] pos) env) Q s := by
  rw [he, ht]
  refine wpG_bindL (wpAny_mono h (fun ov s₁ h₁ => wpG_bind (wpG_standAt (wpG_bindL (wpAny_holding (wpAny_mono h₁ (fun fx s₂ h₂ => ?_) fun _ _ x => x))))) fun _ _ x => x)
  exact h₂
end
section
variable {prog : Program} {w : World} {A : Around} {s : Shared} {env : Env}
/-- out.append(e): the whole expression -/
theorem appendG {o e : PySem.Expr} {apos pos : Pos} {pl : Sem Bool} {Q : Value → Shared → Prop}
    (h : wpAny (model prog w) A (eval o env) (fun ov s₁ => ∃ B b, ov = .ref B ∧ s₁.heap.get? B = some (baObj b) ∧
      wpAny (model prog w) A (eval e env) (fun v s₂ => wpG (model prog w) A (call (.builtin "bytearray.append") [.ref B, v]) Q s₂) noE s₁) noE s)
    (ht : backTo pos (starEach [e] env) = [(false, eval e env)] := by rfl)
    (he : eval (.Call (.Attribute o "append" apos) [e] [] pos) env = (do
      let ov ← eval o env
      standAt apos.atName
      let (f, first) ← holding [ov] (getMethod ov "append" pl)
      callWith pos f first (backTo pos (starEach [e] env)) []) := by rfl) :
    wpG (model prog w) A (eval (.Call (.Attribute o "append" apos) [e] [] pos) env) Q s := by
  refine methodG (pl := pl) (wpAny_mono h (fun ov s₁ h₁ => ?_) fun _ _ x => x) ht he
  obtain ⟨B, b, rfl, hB, h₂⟩ := h₁
  refine getMethod_builtin ⟨_, hB, rfl⟩ ba_attrs ba_slot_append ba_type_append (fun a e => ?_) ?_
  · cases e; exact ⟨_, hB, rfl⟩
  · exact callWithG_builtin rfl (evalArgs1G (wpG_leaf h₂))
end
end Mine

end

section
open PySem PySem.W PyProof.Rows PySem.Calls
open PySem.Sem (wp)
set_option maxRecDepth 100000
namespace Mine
section
variable {prog : Program} {w : World} {A : Around} {s : Shared} {env : Env} {R : Flow → Shared → Prop}

theorem codeG_forLoop {target : PySem.Expr} {it : Value} {body : List Stmt} (I : Nat → Shared → Prop)
    (turn : ∀ n s, I n s → wpAny (model prog w) A (pyNext it) (fun r s₁ => match r with
      | none => R .next s₁
      | some v => wpAny (model prog w) A (do letOwnedTupleGo target it v; assign target env v) (fun _ s₂ => wpG (model prog w) A (execs body env) (fun f s₃ => match f with
          | .next | .cont => ∃ m, m < n ∧ I m s₃
          | .brk => R .next s₃
          | .ret v => R (.ret v) s₃) s₂) noE s₁) noE s)
    (n : Nat) (h : I n s) : codeG (model prog w) A (.forLoop target it body [] env) R s := by
  induction n using Nat.strongRecOn generalizing s with
  | ind n ih =>
    refine codeG_of_tree ?_
    show wpG _ A ((forTurn target it body [] env).onRaise (fun x => do noteFrame x env; theTreesLotGoes x)) _ s
    refine wpG_onRaise ?_
    simp only [forTurn]
    refine wpG_bind (wpG_standAt (wpG_bind (wpG_onRaise (wpG_leaf (wpAny_mono (turn n s h) (fun r s₁ h₁ => ?_) fun _ _ x => x)))))
    cases r with
    | none =>
      refine wpG_pure ⟨rfl, rfl, codeG_of_tree ?_⟩
      show wpG _ A (do return PySem.Fin.done (← (execs [] env).onRaise (fun x => do noteFrame x env; theTreesLotGoes x))) _ s₁
      exact wpG_bind (wpG_onRaise (execsG_nil (wpG_pure h₁)))
    | some v =>
      have key : wpG (model prog w) A (do letOwnedTupleGo target it v; assign target env v) (fun _ s₂ => wpG (model prog w) A (execs body env) (fun f s₃ => match f with
          | .next | .cont => ∃ m, m < n ∧ I m s₃
          | .brk => R .next s₃
          | .ret v => R (.ret v) s₃) s₂) s₁ := wpG_leaf h₁
      have e : ∀ Q' : PySem.Fin → Shared → Prop, (wpG (model prog w) A (do letOwnedTupleGo target it v; assign target env v) (fun _ s₂ => wpG (model prog w) A (do match ← execs body env with
            | .next | .cont => again (.forLoop target it body [] env) | .brk => pure (.done .next) | .ret v => ret v) Q' s₂) s₁) →
          wpG (model prog w) A (do letOwnedTupleGo target it v; assign target env v; match ← execs body env with
            | .next | .cont => again (.forLoop target it body [] env) | .brk => pure (.done .next) | .ret v => ret v) Q' s₁ := by
        intro Q' hQ Γ p hΓ g
        have := hQ Γ p hΓ g
        rw [Sem.wp_bind'] at this ⊢
        refine Sem.wp_mono _ Γ _ (fun _ p' s' h' => ?_) (fun _ _ _ x => x) p s₁ this
        rw [Sem.wp_bind']
        exact Sem.wp_mono _ Γ _ (fun _ p'' s'' h'' => h'' Γ p'' hΓ g) (fun _ _ _ x => x) p' s' h'
      refine e _ (wpG_mono key fun _ s₂ h₂ => wpG_bind (wpG_mono h₂ fun f s₃ h₃ => ?_))
      cases f with
      | next => obtain ⟨m, hm, hI⟩ := h₃; exact wpG_pure ⟨rfl, rfl, ih m hm hI⟩
      | cont => obtain ⟨m, hm, hI⟩ := h₃; exact wpG_pure ⟨rfl, rfl, ih m hm hI⟩
      | brk => exact wpG_pure h₃
      | ret v => exact wpG_pure h₃

theorem codeG_whileLoop {test : PySem.Expr} {body : List Stmt} (I : Nat → Shared → Prop)
    (turn : ∀ n s, I n s →
      wpAny (model prog w) A (isTrue test env (eval test env)) (fun b s₂ =>
        if b then wpG (model prog w) A (execs body env) (fun f s₃ => match f with
            | .next | .cont => ∃ m, m < n ∧ I m s₃
            | .brk => R .next s₃
            | .ret v => R (.ret v) s₃) s₂
        else R .next s₂) noE s)
    (n : Nat) (h : I n s) : codeG (model prog w) A (.whileLoop test body [] env) R s := by
  induction n using Nat.strongRecOn generalizing s with
  | ind n ih =>
    refine codeG_of_tree ?_
    show wpG _ A ((whileTurn test body [] env).onRaise (fun x => do noteFrame x env; theTreesLotGoes x)) _ s
    refine wpG_onRaise ?_
    simp only [whileTurn]
    refine wpG_bind (wpG_leaf (wpAny_mono (turn n s h) (fun b s₂ h₂ => ?_) fun _ _ x => x))
    cases b with
    | false =>
      simp only [Bool.false_eq_true, if_false] at h₂ ⊢
      exact wpG_bind (execsG_nil (wpG_pure h₂))
    | true =>
      simp only [if_true] at h₂ ⊢
      refine wpG_bind (wpG_mono h₂ fun f s₃ h₃ => ?_)
      cases f with
      | next => obtain ⟨m, hm, hI⟩ := h₃; exact wpG_pure ⟨rfl, rfl, ih m hm hI⟩
      | cont => obtain ⟨m, hm, hI⟩ := h₃; exact wpG_pure ⟨rfl, rfl, ih m hm hI⟩
      | brk => exact wpG_pure h₃
      | ret v => exact wpG_pure h₃

/-- what a turn of a ledger's loop leaves -/
def Turned (h₀ : Heap) (L I : Addr) (oI : Obj) (fp : List Addr) (h : Heap) (Jn : (Str → Option Value) → List (Addr × Obj) → Prop) (s₀ : Shared) (s' : Shared) : Prop :=
  ∃ h' tk' m₂ news₂, s' = { s₀ with heap := h', toks := tk' } ∧ Fr h₀ L h' m₂ ∧ News h₀ L h' ((I, oI) :: news₂) ∧ (∀ p ∈ news₂, p.1 ≠ I) ∧ (∀ b ∈ fp, b ≠ I → ∀ o, h.get? b = some o → h'.get? b = some o) ∧ Jn m₂ news₂
def TurnG (h₀ : Heap) (L I : Addr) (oI : Obj) (fp : List Addr) (h : Heap) (Jn : (Str → Option Value) → List (Addr × Obj) → Prop) (s₀ : Shared) (R : Flow → Shared → Prop) (f : Flow) (s' : Shared) : Prop :=
  match f with
  | .ret v => R (.ret v) s'
  | .brk => R .next s'
  | _ => Turned h₀ L I oI fp h Jn s₀ s'

theorem forLedG {h₀ : Heap} {x : Str} {px : Pos} {body : List Stmt} {I : Addr} {fp : List Addr} {n : Nat} {P : Nat → Value → Prop} {St : Nat → Heap → Prop} {m : Str → Option Value} {news : List (Addr × Obj)}
    (W : Walks prog w A I fp [I] n P St) (hx : env.kindOf x = some .local)
    (hp : (env.scope.kind == .class || (env.scope.kind == .module && env.locals != env.globals)) = false)
    (hLf : env.locals ∉ fp) (hI : h₀.get? I = none) (hnw : ∀ p ∈ news, p.1 ≠ I) (hst : St 0 s.heap) (hIs : ∃ oI, s.heap.get? I = some oI)
    (hIst : ∀ i h, St i h → ∃ oI, h.get? I = some oI)
    (F : Fr h₀ env.locals s.heap m) (N : News h₀ env.locals s.heap news)
    (J : Nat → (Str → Option Value) → List (Addr × Obj) → Prop) (h0 : J 0 m news)
    (step : ∀ i v m₁ news₁ h tk oI, i < n → P i v → St (i + 1) h → J i m₁ news₁ → (∀ p ∈ news₁, p.1 ≠ I) → Fr h₀ env.locals h (fun y => if y = x then some v else m₁ y) → News h₀ env.locals h ((I, oI) :: news₁) →
      wpG (model prog w) A (execs body env) (TurnG h₀ env.locals I oI fp h (J (i + 1)) s R) { s with heap := h, toks := tk })
    (hR : ∀ h' tk m' news', Fr h₀ env.locals h' m' → News h₀ env.locals h' news' → (∀ p ∈ news', p.1 ≠ I) → J n m' news' → R .next { s with heap := h', toks := tk }) :
    codeG (model prog w) A (.forLoop (.Name x px) (.ref I) body [] env) R s := by
  have hIfp : I ∈ fp := W.sub I (List.mem_singleton.mpr rfl)
  have hLI : env.locals ≠ I := fun e => hLf (e ▸ hIfp)
  have old : ∀ b o, h₀.get? b = some o → b ∉ [I] := fun b o e hb => by rw [List.mem_singleton.mp hb, hI] at e; cases e
  refine codeG_forLoop
    (fun k s' => ∃ h' tk m' news' i, s' = { s with heap := h', toks := tk } ∧ St i h' ∧ Fr h₀ env.locals h' m' ∧ News h₀ env.locals h' news' ∧ (∀ p ∈ news', p.1 ≠ I) ∧ J i m' news' ∧ i ≤ n ∧ k = n + 1 - i) ?_ (n + 1)
    ⟨s.heap, s.toks, m, news, 0, rfl, hst, F, N, hnw, h0, Nat.zero_le _, rfl⟩
  rintro k s' ⟨h', tk, m', news', i, rfl, hst', F', N', hnw', hJ, hi, rfl⟩
  have next : ∀ h₁ : Heap, (∀ b o, b ∉ [I] → h'.get? b = some o → h₁.get? b = some o) → Fr h₀ env.locals h₁ m' ∧ News h₀ env.locals h₁ news' := fun h₁ hk₁ =>
    ⟨⟨F'.ns.at' fun o e => hk₁ _ o (fun q => hLI (List.mem_singleton.mp q)) e, fun b o e => hk₁ b o (old b o e) (F'.keep b o e), F'.above⟩,
      fun p hp => ⟨hk₁ _ _ (fun q => hnw' p hp (List.mem_singleton.mp q)) (N' p hp).1, (N' p hp).2⟩⟩
  by_cases hlt : i < n
  · refine W.item i _ _ _ hlt hst' fun v h₁ tk₁ hP hst₁ hk₁ => ?_
    obtain ⟨F₁, N₁⟩ := next h₁ hk₁
    refine wpAny_bind (wpAny_of_eq (a := ()) rfl ?_)
    refine wpAny_assign_Name (wpAny_storeName_local hx F₁.ns (fun h₂ hn₂ hs₂ => ?_) hp)
    have F₂ := F₁.set hn₂ hs₂
    have hst₂ : St (i + 1) h₂ := W.frame _ _ _ hst₁ fun b hb o e => (hs₂.2 b fun q => hLf (q ▸ hb)).trans e
    obtain ⟨oI, hoI⟩ := hIst _ _ hst₂
    have N₂ : News h₀ env.locals h₂ ((I, oI) :: news') := fun p hp => by
      rcases List.mem_cons.mp hp with rfl | hp
      · exact ⟨hoI, Ne.symm hLI, hI⟩
      · exact (N₁.set hs₂) p hp
    refine wpG_mono (step i v m' news' h₂ _ oI hlt hP hst₂ hJ hnw' F₂ N₂) (fun f s₃ h₃ => ?_)
    have fin : Turned h₀ env.locals I oI fp h₂ (J (i + 1)) s s₃ → ∃ k', k' < n + 1 - i ∧ ∃ h' tk m' news' i, s₃ = { s with heap := h', toks := tk } ∧ St i h' ∧ Fr h₀ env.locals h' m' ∧ News h₀ env.locals h' news' ∧ (∀ p ∈ news', p.1 ≠ I) ∧ J i m' news' ∧ i ≤ n ∧ k' = n + 1 - i := by
      rintro ⟨h₃', tk₃, m₂, news₂, rfl, F₃, N₃, ha₃, hfp, hJ₃⟩
      refine ⟨n + 1 - (i + 1), by omega, h₃', tk₃, m₂, news₂, i + 1, rfl, ?_, F₃, fun p hp => N₃ p (.tail _ hp), ha₃, hJ₃, hlt, rfl⟩
      refine W.frame _ _ _ hst₂ fun b hb o e => ?_
      by_cases hbI : b = I
      · subst hbI
        rw [hoI] at e
        cases e
        exact (N₃ _ (.head _)).1
      · exact hfp b hb hbI o e
    cases f with
    | ret v => exact h₃
    | brk => exact h₃
    | cont => exact fin h₃
    | next => exact fin h₃
  · have hin : i = n := by omega
    subst hin
    refine W.done _ _ _ hst' fun h₁ tk₁ hk₁ => ?_
    obtain ⟨F₁, N₁⟩ := next h₁ hk₁
    exact hR h₁ tk₁ m' news' F₁ N₁ hnw' hJ
end

section
variable {h₀ h h' : Heap} {L a : Addr} {m : Str → Option Value} {o o' : Obj} {pre post news : List (Addr × Obj)}
/-- one object of the ledger changed -/
theorem led_upd (F : Fr h₀ L h m) (N : News h₀ L h (pre ++ (a, o) :: post)) (h1 : ∀ p ∈ pre, p.1 ≠ a) (h2 : ∀ p ∈ post, p.1 ≠ a) (hs : Heap.SameBut a h h') (ho : h'.get? a = some o') :
    Fr h₀ L h' m ∧ News h₀ L h' (pre ++ (a, o') :: post) := by
  have ha := N _ (List.mem_append_right pre (.head post))
  refine ⟨⟨F.ns.sameBut hs (Ne.symm ha.2.1), fun b ob e => ?_, F.above⟩, fun p hp => ?_⟩
  · refine (hs.2 b ?_).trans (F.keep b ob e)
    rintro rfl
    have := ha.2.2
    simp only at this
    rw [this] at e; cases e
  · rcases List.mem_append.mp hp with hp | hp
    · have := N p (List.mem_append_left _ hp)
      exact ⟨(hs.2 _ (h1 p hp)).trans this.1, this.2⟩
    · rcases List.mem_cons.mp hp with rfl | hp
      · exact ⟨ho, ha.2⟩
      · have := N p (List.mem_append_right _ (.tail _ hp))
        exact ⟨(hs.2 _ (h2 p hp)).trans this.1, this.2⟩
/-- all kept: a call that only makes new things -/
theorem led_ext (F : Fr h₀ L h m) (N : News h₀ L h news) (hk : ∀ b o, h.get? b = some o → h'.get? b = some o) : Fr h₀ L h' m ∧ News h₀ L h' news :=
  ⟨⟨F.ns.keeps hk, fun b o e => hk b o (F.keep b o e), F.above⟩, fun p hp => ⟨hk _ _ (N p hp).1, (N p hp).2⟩⟩
/-- a new object, its place above all -/
theorem led_new (F : Fr h₀ L h m) (N : News h₀ L h news) (hk : ∀ b o, h.get? b = some o → h'.get? b = some o) (ho : h'.get? h.objs.size = some o) :
    Fr h₀ L h' m ∧ News h₀ L h' ((h.objs.size, o) :: news) ∧ ∀ p ∈ news, p.1 < h.objs.size := by
  obtain ⟨F', N'⟩ := led_ext F N hk
  refine ⟨F', fun p hp => ?_, fun p hp => Heap.lt_size (N p hp).1⟩
  rcases List.mem_cons.mp hp with rfl | hp
  · refine ⟨ho, Nat.ne_of_gt F.ns.lt, ?_⟩
    cases hq : h₀.get? h.objs.size with
    | none => exact rfl
    | some q => exact absurd (Heap.lt_size (F.keep _ _ hq)) (Nat.lt_irrefl _)
  · exact N' p hp
end
end Mine

end

section
namespace Mine
/-- the own receiver's state within a row -/
structure RS where
  text : List Int
  last : Int
  wanted : Int
def RS.init : RS := ⟨[], 0, 0⟩
def sepOf (last : Int) : List Int := if 0 < last ∧ last < 255 then [0] else []
def rstep (st : RS) (o : Int) : RS :=
  if 0 < st.wanted then ⟨st.text ++ [o], st.last, st.wanted - 1⟩ else ⟨st.text ++ sepOf st.last, o, o - 1⟩
def rrun (st : RS) (l : List Int) : RS := l.foldl rstep st
def rfin (st : RS) : List Int := if 0 < st.wanted then st.text ++ [st.last] else st.text
/-- at a code: the text with the nought that the next code would bring -/
def RS.At (st : RS) (l : List Int) : Prop := st.wanted = 0 ∧ st.text ++ sepOf st.last = l

theorem rrun_nil (st : RS) : rrun st [] = st := rfl
theorem rrun_cons (st : RS) (o : Int) (l : List Int) : rrun st (o :: l) = rrun (rstep st o) l := rfl
theorem rrun_append (st : RS) (a b : List Int) : rrun st (a ++ b) = rrun (rrun st a) b := List.foldl_append
theorem init_at : RS.init.At [] := ⟨rfl, by simp [RS.init, sepOf]⟩

/-- octets of text within a wanted stretch -/
theorem rrun_text (l : List Int) : ∀ (t : List Int) (c n : Int), (l.length : Int) ≤ n → rrun ⟨t, c, n⟩ l = ⟨t ++ l, c, n - l.length⟩ := by
  induction l with
  | nil => intro t c n _; simp [rrun_nil]
  | cons o l ih =>
    intro t c n h
    have h1 : 0 < n := by simp only [List.length_cons] at h; omega
    rw [rrun_cons]
    have : rstep ⟨t, c, n⟩ o = ⟨t ++ [o], c, n - 1⟩ := by simp [rstep, h1]
    rw [this, ih _ _ _ (by simp only [List.length_cons] at h; omega)]
    simp only [List.append_assoc, List.singleton_append, List.length_cons, Int.natCast_add, RS.mk.injEq, true_and]
    omega

/-- a code and its octets, all there -/
theorem block {st : RS} {l : List Int} (h : st.At l) (c : Int) (x : List Int) (hx : (x.length : Int) ≤ c - 1) : rrun st (c :: x) = ⟨l ++ x, c, c - 1 - x.length⟩ := by
  rw [rrun_cons]
  have : rstep st c = ⟨l, c, c - 1⟩ := by
    unfold rstep
    rw [if_neg (by rw [h.1]; decide), h.2]
  rw [this, rrun_text x l c (c - 1) hx]

/-- what encode has built: its octets, and where it stands -/
structure EncInv (ks : List Int) (i j : Nat) (out : List Int) : Prop where
  le : j ≤ i
  few : i - j ≤ 254
  nz : ∀ c ∈ out, c ≠ 0
  at_ : (rrun RS.init out).At (ks.take j)
  pend : ∀ c ∈ (ks.take i).drop j, c ≠ 0
  size : out.length ≤ 2 * j

def Edge (ks : List Int) (i j : Nat) : Prop := j < i ∨ i = 0 ∨ ks[i - 1]? = some 0

/-- the finished row of a text -/
structure Enc (ks rs : List Int) : Prop where
  nz : ∀ c ∈ rs, c ≠ 0
  back : rfin (rrun RS.init rs) = ks
  size : rs.length ≤ 2 * ks.length + 1

theorem encInv_zero (ks : List Int) : EncInv ks 0 0 [] := ⟨Nat.le_refl _, by decide, fun _ h => (nomatch h), by simpa [rrun_nil] using init_at, fun _ h => by simp at h, by simp⟩

theorem slice_len {ks : List Int} {i j : Nat} (hi : i ≤ ks.length) : ((ks.take i).drop j).length = i - j := by simp; omega

/-- the flush of a full block -/
theorem EncInv.flush {ks : List Int} {i j : Nat} {out : List Int} (h : EncInv ks i j out) (hi : i < ks.length) (he : i - j = 254) :
    EncInv ks i i (out ++ 255 :: (ks.take i).drop j) := by
  have hl := slice_len (j := j) (Nat.le_of_lt hi)
  refine ⟨Nat.le_refl _, by omega, ?_, ?_, fun _ hc => by simp at hc, ?_⟩
  · intro c hc
    rcases List.mem_append.mp hc with hc | hc
    · exact h.nz c hc
    · rcases List.mem_cons.mp hc with rfl | hc
      · decide
      · exact h.pend c hc
  · rw [rrun_append, block h.at_ 255 _ (by omega)]
    refine ⟨by show (255 : Int) - 1 - _ = 0; omega, ?_⟩
    have e : ks.take j ++ (ks.take i).drop j = ks.take i := by
      have := List.take_append_drop j (ks.take i)
      rwa [List.take_take, Nat.min_eq_left h.le] at this
    simp [sepOf, e]
  · have := h.size
    simp only [List.length_append, List.length_cons, hl]
    omega
theorem EncInv.nought {ks : List Int} {i j : Nat} {out : List Int} (h : EncInv ks i j out) (hi : ks[i]? = some 0) (he : i - j ≠ 254) :
    EncInv ks (i + 1) (i + 1) (out ++ ((i : Int) - j + 1) :: (ks.take i).drop j) := by
  have hlt : i < ks.length := (List.getElem?_eq_some_iff.mp hi).1
  have hl := slice_len (j := j) (Nat.le_of_lt hlt)
  have hle := h.le
  have hfew := h.few
  have hc : (i : Int) - j + 1 = ((i - j : Nat) : Int) + 1 := by omega
  refine ⟨Nat.le_refl _, by omega, ?_, ?_, fun _ hc => by simp at hc, ?_⟩
  · intro c hc
    rcases List.mem_append.mp hc with hc | hc
    · exact h.nz c hc
    · rcases List.mem_cons.mp hc with rfl | hc
      · omega
      · exact h.pend c hc
  · rw [rrun_append, block h.at_ _ _ (by omega)]
    refine ⟨by show (i : Int) - j + 1 - 1 - _ = 0; omega, ?_⟩
    have e : ks.take j ++ (ks.take i).drop j = ks.take i := by
      have := List.take_append_drop j (ks.take i)
      rwa [List.take_take, Nat.min_eq_left h.le] at this
    have : sepOf ((i : Int) - j + 1) = [0] := by unfold sepOf; rw [if_pos (by omega)]
    simp only [e, this]
    rw [List.take_add_one, hi]; rfl
  · have := h.size
    simp only [List.length_append, List.length_cons, hl]
    omega
theorem EncInv.octet {ks : List Int} {i j : Nat} {out : List Int} {c : Int} (h : EncInv ks i j out) (hi : ks[i]? = some c) (hc : c ≠ 0) (he : i - j ≠ 254) : EncInv ks (i + 1) j out := by
  have hle := h.le
  have hfew := h.few
  refine ⟨by omega, by omega, h.nz, h.at_, ?_, ?_⟩
  · intro x hx
    rw [List.take_add_one, hi, List.drop_append_of_le_length (by have := (List.getElem?_eq_some_iff.mp hi).1; simp; omega)] at hx
    rcases List.mem_append.mp hx with hx | hx
    · exact h.pend x hx
    · simp at hx; rw [hx]; exact hc
  · have := h.size; omega
/-- the end, the last code a length -/
theorem EncInv.endLen {ks : List Int} {j : Nat} {out : List Int} (h : EncInv ks ks.length j out) : Enc ks (out ++ ((ks.length : Int) - j + 1) :: (ks.take ks.length).drop j) := by
  have hl := slice_len (ks := ks) (j := j) (Nat.le_refl _)
  have hle := h.le
  refine ⟨?_, ?_, ?_⟩
  · intro c hc
    rcases List.mem_append.mp hc with hc | hc
    · exact h.nz c hc
    · rcases List.mem_cons.mp hc with rfl | hc
      · omega
      · exact h.pend c hc
  · rw [rrun_append, block h.at_ _ _ (by omega)]
    have e : ks.take j ++ (ks.take ks.length).drop j = ks := by rw [List.take_length, List.take_append_drop]
    unfold rfin
    rw [if_neg (by show ¬ (0 : Int) < (ks.length : Int) - j + 1 - 1 - _; omega), e]
  · have := h.size
    simp only [List.length_append, List.length_cons, hl]
    omega
/-- the end, the last code the last octet itself -/
theorem EncInv.endSelf {ks : List Int} {j : Nat} {out : List Int} {f : Int} (h : EncInv ks ks.length j out) (he : Edge ks ks.length j) (hf : ks.getLast? = some f) (hb : (ks.length : Int) - j + 1 ≤ f) :
    Enc ks (out ++ f :: (ks.take (ks.length - 1)).drop j) := by
  have hle := h.le
  have hf0 : f ≠ 0 := by omega
  have hne : ks ≠ [] := by rintro rfl; simp at hf
  obtain ⟨pre, rfl⟩ : ∃ pre, ks = pre ++ [f] := by
    obtain ⟨pre, hp⟩ := List.getLast?_eq_some_iff.mp hf
    exact ⟨pre, hp⟩
  have hj : j ≤ pre.length := by
    rcases he with he | he | he
    · simp at he; omega
    · simp at he
    · simp at he
      exact absurd he hf0
  have hl : ((pre ++ [f]).take ((pre ++ [f]).length - 1)).drop j = pre.drop j := by simp
  rw [hl]
  have hlen : (pre.drop j).length = pre.length - j := by simp
  simp only [List.length_append, List.length_singleton] at hb hle
  refine ⟨?_, ?_, ?_⟩
  · intro c hc
    rcases List.mem_append.mp hc with hc | hc
    · exact h.nz c hc
    · rcases List.mem_cons.mp hc with rfl | hc
      · exact hf0
      · refine h.pend c ?_
        rw [List.take_length, List.drop_append_of_le_length hj]
        exact List.mem_append_left _ hc
  · have ha := h.at_
    rw [List.take_append_of_le_length hj] at ha
    rw [rrun_append, block ha _ _ (by omega)]
    unfold rfin
    rw [if_pos (by show (0 : Int) < f - 1 - _; omega)]
    show _ ++ [f] = _
    rw [List.take_append_drop]
  · have := h.size
    simp only [List.length_append, List.length_cons, hlen, List.length_nil] at this ⊢
    omega
end Mine

end

section
open PySem PySem.W PyProof.Rows PySem.Calls
open PySem.Sem (wp)
set_option maxRecDepth 100000
set_option maxHeartbeats 4000000
namespace Mine
abbrev PWR : Program := PySem.Challenge.rw_nc0008_01.row.prog
def fnBody (i : Nat) : List Stmt := match PWR.main.body[i]? with | some (.FunctionDef _ _ b ..) => b | _ => []
def fnScope (i : Nat) : PySem.Scope := match PWR.main.body[i]? with | some (.FunctionDef (scope := sc) ..) => sc | _ => default
def forBody : Stmt → List Stmt | .For _ _ b .. => b | _ => []
def whileBody : Stmt → List Stmt | .While _ b .. => b | _ => []
def tryBody : Stmt → List Stmt | .Try b .. => b | _ => []
def ifBody : Stmt → List Stmt | .If _ b .. => b | _ => []
def ifElse : Stmt → List Stmt | .If _ _ b .. => b | _ => []
def nth : List Stmt → Nat → Stmt
  | [], _ => .Pass default
  | a :: _, 0 => a
  | _ :: l, n + 1 => nth l n
def encFor : List Stmt := forBody (nth (fnBody 2) 5)
abbrev encEnv (L : Addr) : Env := envOf (Str.ofString "encode") (fnScope 2) L 34 (Value.ref 33)
abbrev TopP (mean : ExcName → Option Value) (mg mb : Str → Option Value) (h : Heap) : Prop := Top hd.view_39 (looseW hd.view_39 []) mean mg mb h
abbrev KP (w : World) (h : Heap) : Prop := (hd.heap_39 w.params).In h

theorem fr_known {b h : Heap} {L : Addr} {m : Str → Option Value} {x : Str} {v : Value} (F : Fr b L h m) (e : m x = some v) : Fr b L h (fun y => if y = x then some v else m y) := by
  have : (fun y => if y = x then some v else m y) = m := by
    funext y
    by_cases hy : y = x
    · rw [if_pos hy, hy, e]
    · rw [if_neg hy]
  rw [this]; exact F
example : (fnScope 2).kind = .function := rfl
example : ∃ a b c, encFor = [a, b, c] := ⟨_, _, _, rfl⟩
end Mine

end

section
open PySem PySem.W PyProof.Rows PySem.Calls
open PySem.Sem (wp)
set_option maxRecDepth 100000
set_option maxHeartbeats 4000000
namespace Mine
/-- an expression that yields an int and leaves the heap -/
def IntOf (M : Model) (A : Around) (t : Sem Value) (c : Int) (s : Shared) : Prop :=
  ∀ Q : Value → Shared → Prop, (∀ t' tk', Q (.int c t') { s with toks := tk' }) → wpAny M A t Q noE s
/-- an expression that yields bytes and makes new things alone -/
def BytesOf (M : Model) (A : Around) (t : Sem Value) (D : List Int) (s : Shared) : Prop :=
  ∀ Q : Value → Shared → Prop, (∀ d t' h' tk', KBw.bInts d = D → (∀ b o, s.heap.get? b = some o → h'.get? b = some o) → Q (.bytes d t') { s with heap := h', toks := tk' }) → wpAny M A t Q noE s

theorem bInts_push {b : Array UInt8} {c : Int} (h0 : 0 ≤ c) (h1 : c < 256) : KBw.bInts (b.push c.toNat.toUInt8) = KBw.bInts b ++ [c] := by
  simp only [KBw.bInts, Array.toList_push, List.map_append, List.map_cons, List.map_nil]
  rw [byte_back h0 h1]
theorem bInts_append (b c : Array UInt8) : KBw.bInts (b ++ c) = KBw.bInts b ++ KBw.bInts c := KBw.ints_app rfl rfl

section
variable {prog : Program} {w : World} {A : Around} {s : Shared} {name : Str} {scope : PySem.Scope} {L fa B : Addr} {cd : Value} {base : Heap} {m : Str → Option Value} {pre post : List (Addr × Obj)} {out : Array UInt8} {Q : Flow → Shared → Prop}
theorem appendStmt {x : Str} {e : PySem.Expr} {p1 p2 p3 p4 : Pos} {rest : List Stmt} {c : Int} {pl : Sem Bool}
    (F : Fr base L s.heap m) (N : News base L s.heap (pre ++ (B, baObj out) :: post)) (h1 : ∀ p ∈ pre, p.1 ≠ B) (h2 : ∀ p ∈ post, p.1 ≠ B) (hx : m x = some (.ref B))
    (he : IntOf (model prog w) A (eval e (envOf name scope L fa cd)) c s) (hc0 : 0 ≤ c) (hc1 : c < 256) (hz : out.size < 100000)
    (h : ∀ h' tk' out', KBw.bInts out' = KBw.bInts out ++ [c] → out'.size = out.size + 1 → Fr base L h' m → News base L h' (pre ++ (B, baObj out') :: post) → wpG (model prog w) A (execs rest (envOf name scope L fa cd)) Q { s with heap := h', toks := tk' })
    (hk : scope.kind = .function := by rfl) (hl : (envOf name scope L fa cd).kindOf x = some .local := by rfl) (hd : (x == ("__debug__" : Str)) = false := by decide)
    (hi : interactive (envOf name scope L fa cd) = false := by rfl) (hs : swapsWith (.Call (.Attribute (.Name x p1) "append" p2) [e] [] p3) none p4.line (envOf name scope L fa cd) = pure false := by rfl)
    (ht : backTo p3 (starEach [e] (envOf name scope L fa cd)) = [(false, eval e (envOf name scope L fa cd))] := by rfl)
    (heq : eval (.Call (.Attribute (.Name x p1) "append" p2) [e] [] p3) (envOf name scope L fa cd) = (do
      let ov ← eval (.Name x p1) (envOf name scope L fa cd)
      standAt p2.atName
      let (f, first) ← holding [ov] (getMethod ov "append" pl)
      callWith p3 f first (backTo p3 (starEach [e] (envOf name scope L fa cd))) []) := by rfl) :
    wpG (model prog w) A (execs (.Expr (.Call (.Attribute (.Name x p1) "append" p2) [e] [] p3) p4 :: rest) (envOf name scope L fa cd)) Q s := by
  have hB := N.get (List.mem_append_right pre (.head post))
  refine execsG_cons (exprG (appendG (pl := pl) (ld F hx ⟨B, out, rfl, hB, he _ fun t' tk' => ?_⟩ hk hl hd) ht heq) hi hs)
  refine ba_append hB hc0 hc1 (by rw [sizeLine_eq]; omega) fun h' hs hB' => ?_
  obtain ⟨F', N'⟩ := led_upd F N h1 h2 hs hB'
  exact h h' _ _ (bInts_push hc0 hc1) (by simp) F' N'

theorem iaddStmt {x : Str} {e : PySem.Expr} {p1 p2 : Pos} {rest : List Stmt} {D : List Int}
    (F : Fr base L s.heap m) (N : News base L s.heap (pre ++ (B, baObj out) :: post)) (h1 : ∀ p ∈ pre, p.1 ≠ B) (h2 : ∀ p ∈ post, p.1 ≠ B) (hx : m x = some (.ref B))
    (he : BytesOf (model prog w) A (eval e (envOf name scope L fa cd)) D s) (hz : out.size + D.length < 100000)
    (h : ∀ h' tk' out', KBw.bInts out' = KBw.bInts out ++ D → out'.size = out.size + D.length → Fr base L h' (fun y => if y = x then some (.ref B) else m y) → News base L h' (pre ++ (B, baObj out') :: post) → wpG (model prog w) A (execs rest (envOf name scope L fa cd)) Q { s with heap := h', toks := tk' })
    (hk : scope.kind = .function := by rfl) (hl : (envOf name scope L fa cd).kindOf x = some .local := by rfl) :
    wpG (model prog w) A (execs (.AugAssign (.Name x p1) .Add e p2 :: rest) (envOf name scope L fa cd)) Q s := by
  refine execsG_cons (augG (ldn F hx ?_ hk hl))
  refine wpG_leaf (he _ fun d t' h' tk' hd hk' => ?_)
  obtain ⟨F', N'⟩ := led_ext F N hk'
  have hB := N'.get (List.mem_append_right pre (.head post))
  have hdl : d.size = D.length := by rw [← hd, KBw.ints_length]
  refine inplace_ba hB (by rw [sizeLine_eq]; omega) fun h2' hs hB' => ?_
  obtain ⟨F2, N2⟩ := led_upd F' N' h1 h2 hs hB'
  refine stN F2 N2 (fun h3 F3 N3 => ?_) hk hl
  exact h h3 _ _ (by rw [bInts_append, hd]) (by simp [hdl]) F3 N3

/-- a slice of bytes, both ends written -/
theorem slice_bytes {b : Array UInt8} {t t1 t2 : Tok} {lo hi : Int} {value slice : PySem.Expr} {Q : Value → Shared → Prop} (hb : b.size ≤ 16777216)
    (h : ∀ d t' h' tk', KBw.bInts d = ((KBw.bInts b).drop (clipAt b.size lo)).take (clipAt b.size hi - clipAt b.size lo) → (∀ b o, s.heap.get? b = some o → h'.get? b = some o) → Q (.bytes d t') { s with heap := h', toks := tk' })
    (hs : subscripted slice false (.bytes b t) (.ref s.heap.objs.size) = operate [.ref s.heap.objs.size, .bytes b t] (getItem (.bytes b t) (.ref s.heap.objs.size)) := by with_unfolding_all rfl)
    (ht : ∀ r, letTemporaryGo value (.bytes b t) r = pure () := by intro _; with_unfolding_all rfl) :
    wpAny (model prog w) A (subscriptTail value slice (.bytes b t) (.ref s.heap.objs.size)) Q noE { s with heap := s.heap.push { cls := .type "slice", data := .fields #[.int lo t1, .int hi t2, .none] } } := by
  refine tail_of_ItemOn ⟨"bytes", _, FB.slot_bytes_getitem.lookup, typeIs_bytes _ _ _, getItem_meets (typeIs_bytes _ _ _) (by decide) FB.slot_bytes_getitem FB.entry_bytes_getitem (FB.args_bytes_getitem_2 _ _) (KBc.meets_slice2 b t _ (.int lo t1) (.int hi t2))
    ⟨Heap.IsSliceOf.new _ _ _ _, Nat.le_trans (KBc.size_picked_le b _ _) (by rw [sizeLine_eq]; exact hb), fun t' k => ?_⟩⟩ hs ht
  refine h _ t' _ k ?_ (fun b o e => Heap.get?_push_of_some _ e)
  have := KBc.ints_picked (b := b) rfl (some lo) (some hi)
  rw [KBw.ints_length] at this
  exact this
end
theorem clip_nat {n k : Nat} (h : k ≤ n) : clipAt n (k : Int) = k := by rw [clipAt_nat]; omega
end Mine

end

section
open PySem PySem.W PyProof.Rows PySem.Calls
open PySem.Sem (wp)
set_option maxRecDepth 100000
set_option maxHeartbeats 4000000
namespace Mine
theorem enc_turn {w : World} {A : Around} {s : Shared} {base : Heap} {L B I : Addr} {oI : Obj} {b out : Array UInt8} {t ti tj u : Tok} {i j : Nat} {c : Int} {m : Str → Option Value} {mean} {mg mb : Str → Option Value} {Q : Flow → Shared → Prop} {rest : List (Addr × Obj)}
   (X : KP w base) (T : TopP mean mg mb base) (hsz : b.size ≤ 1000)
   (F : Fr base L s.heap (fun y => if y = Str.ofString "in_char" then some (.int c u) else m y)) (N : News base L s.heap ((I, oI) :: (B, baObj out) :: rest)) (hBI : B ≠ I) (hBr : ∀ p ∈ rest, p.1 ≠ B)
   (e1 : m (Str.ofString "in_bytes_mv") = some (.bytes b t)) (e2 : m (Str.ofString "out_bytes") = some (.ref B)) (e3 : m (Str.ofString "idx") = some (.int (i : Int) ti)) (e4 : m (Str.ofString "search_start_idx") = some (.int (j : Int) tj))
   (hc : (KBw.bInts b)[i]? = some c) (hE : EncInv (KBw.bInts b) i j (KBw.bInts out))
   (hQ : ∀ h' tk' m₂ j' out' ti' tj', Fr base L h' m₂ → News base L h' ((I, oI) :: (B, baObj out') :: rest) → m₂ (Str.ofString "in_bytes_mv") = some (.bytes b t) → m₂ (Str.ofString "out_bytes") = some (.ref B) →
      m₂ (Str.ofString "idx") = some (.int ((i + 1 : Nat) : Int) ti') → m₂ (Str.ofString "search_start_idx") = some (.int ((j' : Nat) : Int) tj') → EncInv (KBw.bInts b) (i + 1) j' (KBw.bInts out') → Edge (KBw.bInts b) (i + 1) j' →
      Q .next { s with heap := h', toks := tk' }) :
   wpG (model PWR w) A (execs encFor (encEnv L)) Q s := by
  revert X
  k_fill
  intro X
  have F := fr_known (x := Str.ofString "in_bytes_mv") (fr_known (x := Str.ofString "out_bytes") (fr_known (x := Str.ofString "idx") (fr_known (x := Str.ofString "search_start_idx") F e4) e3) e2) e1
  have hlen : (KBw.bInts b).length = b.size := KBw.ints_length b
  have hi : i < b.size := by rw [← hlen]; exact (List.getElem?_eq_some_iff.mp hc).1
  have hosz : out.size = (KBw.bInts out).length := (KBw.ints_length out).symm
  have hsize := hE.size
  have hle := hE.le
  have hfew := hE.few
  -- a full block goes out first
  have second : ∀ (s : Shared) (m : Str → Option Value) (j : Nat) (out : Array UInt8) (ti tj : Tok), Fr base L s.heap m → News base L s.heap ((I, oI) :: (B, baObj out) :: rest) →
      m (Str.ofString "in_char") = some (.int c u) → m (Str.ofString "in_bytes_mv") = some (.bytes b t) → m (Str.ofString "out_bytes") = some (.ref B) → m (Str.ofString "idx") = some (.int (i : Int) ti) → m (Str.ofString "search_start_idx") = some (.int (j : Int) tj) →
      EncInv (KBw.bInts b) i j (KBw.bInts out) → i - j ≠ 254 →
      (∀ h' tk' m₂ j' out' ti' tj', Fr base L h' m₂ → News base L h' ((I, oI) :: (B, baObj out') :: rest) → m₂ (Str.ofString "in_bytes_mv") = some (.bytes b t) → m₂ (Str.ofString "out_bytes") = some (.ref B) →
      m₂ (Str.ofString "idx") = some (.int ((i + 1 : Nat) : Int) ti') → m₂ (Str.ofString "search_start_idx") = some (.int ((j' : Nat) : Int) tj') → EncInv (KBw.bInts b) (i + 1) j' (KBw.bInts out') → Edge (KBw.bInts b) (i + 1) j' →
      Q .next { s with heap := h', toks := tk' }) → wpG (model PWR w) A (execs (encFor.drop 1) (encEnv L)) Q s := by
    clear F N e1 e2 e3 e4 hE hQ hsize hle hfew hosz
    intro s m j out ti tj F N e0 e1 e2 e3 e4 hE hne hQ
    have hosz : out.size = (KBw.bInts out).length := (KBw.ints_length out).symm
    have hsize := hE.size
    have hle := hE.le
    have hfew := hE.few
    have F := fr_known (x := Str.ofString "in_char") (fr_known (x := Str.ofString "in_bytes_mv") (fr_known (x := Str.ofString "out_bytes") (fr_known (x := Str.ofString "idx") (fr_known (x := Str.ofString "search_start_idx") F e4) e3) e2) e1) e0
    refine execsG_cons (ifG ?_)
    k_steps
    · rename_i hc0
      subst hc0
      refine appendStmt (pre := [(I, oI)]) (post := rest) (B := B) F N (by simpa using Ne.symm hBI) hBr rfl (c := (i : Int) - j + 1) ?he (by omega) (by omega) (by omega) fun h1 tk1 out1 ho1 hz1 F1 N1 => ?_
      case he =>
        intro Q' hQ'
        k_steps
        exact hQ' _ _
      clear F N
      refine iaddStmt (pre := [(I, oI)]) (post := rest) (B := B) F1 N1 (by simpa using Ne.symm hBI) hBr rfl (D := ((KBw.bInts b).take i).drop j) ?he ?hz fun h2 tk2 out2 ho2 hz2 F2 N2 => ?_
      case he =>
        intro Q' hQ'
        k_steps
        refine slice_bytes (s := ⟨_, _, _, _, _⟩) (by omega) fun d t' h' tk' hd hk => hQ' d t' h' tk' ?_ hk
        rw [hd, clip_nat (by omega), clip_nat (by omega), List.drop_take]
      case hz => rw [slice_len (by omega)]; omega
      clear F1 N1
      refine execsG_leaf ?_
      k_steps
      refine execsG_nil ?_
      dsimp only
      refine execsG_leaf ?_
      k_steps
      refine execsG_nil ?_
      refine hQ _ _ _ (i + 1) out2 _ _ (by k_asm) (by k_asm) rfl rfl rfl rfl ?_ (.inr (.inr hc))
      rw [ho2, ho1, List.append_assoc]
      exact hE.nought hc hne
    · rename_i hc0
      refine execsG_nil ?_
      dsimp only
      refine execsG_leaf ?_
      k_steps
      refine execsG_nil ?_
      refine hQ _ _ _ j out _ tj (by k_asm) (by k_asm) rfl rfl rfl rfl (hE.octet hc hc0 hne) (.inl (by omega))
  refine execsG_cons (ifG ?_)
  k_steps
  · rename_i hij
    refine appendStmt (pre := [(I, oI)]) (post := rest) (B := B) F N (by simpa using Ne.symm hBI) hBr rfl (c := 255) ?he (by omega) (by omega) (by omega) fun h1 tk1 out1 ho1 hz1 F1 N1 => ?_
    case he =>
      intro Q' hQ'
      k_steps
      exact hQ' _ _
    clear F N
    refine iaddStmt (pre := [(I, oI)]) (post := rest) (B := B) F1 N1 (by simpa using Ne.symm hBI) hBr rfl (D := ((KBw.bInts b).take i).drop j) ?he ?hz fun h2 tk2 out2 ho2 hz2 F2 N2 => ?_
    case he =>
      intro Q' hQ'
      k_steps
      refine slice_bytes (s := ⟨_, _, _, _, _⟩) (by omega) fun d t' h' tk' hd hk => hQ' d t' h' tk' ?_ hk
      rw [hd, clip_nat (by omega), clip_nat (by omega), List.drop_take]
    case hz => rw [slice_len (by omega)]; omega
    clear F1 N1
    refine execsG_leaf ?_
    k_steps
    refine execsG_nil ?_
    dsimp only
    refine second _ _ i out2 ti _ (by k_asm) (by k_asm) rfl rfl rfl rfl rfl ?_ (by omega) (fun h' tk' m₂ j' out' ti' tj' a1 a2 a3 a4 a5 a6 a7 a8 => hQ h' tk' m₂ j' out' ti' tj' a1 a2 a3 a4 a5 a6 a7 a8)
    rw [ho2, ho1, List.append_assoc]
    exact hE.flush (by omega) (by omega)
  · rename_i hij
    refine execsG_nil ?_
    exact second _ _ j out ti tj (by k_asm) (by k_asm) rfl rfl rfl rfl rfl hE (by omega) (fun h' tk' m₂ j' out' ti' tj' a1 a2 a3 a4 a5 a6 a7 a8 => hQ h' tk' m₂ j' out' ti' tj' a1 a2 a3 a4 a5 a6 a7 a8)
end Mine

end

section
open PySem PySem.W PyProof.Rows PySem.Calls
open PySem.Sem (wp)
set_option maxRecDepth 100000
set_option maxHeartbeats 4000000
set_option linter.unusedVariables false
namespace Mine
theorem bytes_item_out {prog : Program} {w : World} {A : Around} {E : Value → Shared → Prop} {s : Shared} {t u : Tok} {i : Int} {value slice : PySem.Expr} {Q : Value → Shared → Prop} (hh : A.handled = none)
    (hr : Builtin.Bytes.fitsIndex i = true)
    (hE : ∀ h' tk e, Heap.NewExc s.heap h' e "IndexError" → E (.ref e) { s with heap := h', toks := tk })
    (hs : subscripted slice false (.bytes #[] t) (.int i u) = operate [.bytes #[] t, .int i u] (getItem (.bytes #[] t) (.int i u)) := by with_unfolding_all rfl) :
    wpAny (model prog w) A (subscriptTail value slice (.bytes #[] t) (.int i u)) Q E s := by
  have hT := typeIs_bytes s #[] t
  refine tail_any hT FB.slot_bytes_getitem.lookup ?_ hs
  refine wpAny_getItem_slot hT (by decide) FB.slot_bytes_getitem (wpAny_call_entry FB.slot_bytes_getitem hT FB.entry_bytes_getitem ?_ (FB.args_bytes_getitem_2 _ _))
  show wpAny _ A.in1 (Builtin.Bytes.subscript? (.int i u) >>= fun r => _) _ E s
  refine wpAny_bind ?_
  unfold Builtin.Bytes.subscript?
  refine wpAny_bind (wpAny_specialOf (typeIs_int s i u) F.slot_int_index.lookup ?_)
  show wpAny _ _ (if (!Builtin.Bytes.fitsIndex i) = true then _ else pure (some i)) _ E s
  rw [hr]
  refine wpAny_pure ?_
  show wpAny _ _ (match (seqIndex? i (#[] : Array UInt8).size).bind ((#[] : Array UInt8)[·]?) with | some x => _ | none => _) _ E s
  have : (seqIndex? i (#[] : Array UInt8).size).bind ((#[] : Array UInt8)[·]?) = none := by
    cases seqIndex? i (#[] : Array UInt8).size <;> simp
  rw [this]
  refine wpAny_bind (wpAny_rule ?_)
  exact wpAny_bind (wpAny_raiseErrorWords plainExc_IndexError hh hE)

theorem enc_last {w : World} {A₀ : Around} {s : Shared} {base : Heap} {L LC : Addr} {oL : Obj} {envC : Env} {b : Array UInt8} {t : Tok} {m : Str → Option Value} {new : List (Addr × Obj)} {mean} {mg mb : Str → Option Value} {Q : Flow → Shared → Prop}
   (X : KP w base) (T : TopP mean mg mb base) (hh : A₀.handled = none) (hfr : A₀.frames = some [envC]) (hC : TI.Frs [envC] [(LC, oL)]) (hsz : b.size ≤ 1000)
   (F : Fr base L s.heap m) (N : News base L s.heap (new ++ [(LC, oL)])) (hne : TLg.AllNe LC new) (e1 : m (Str.ofString "in_bytes_mv") = some (.bytes b t))
   (hQ : ∀ h' tk' t' sl m', Fr base L h' m' → (∀ y, m' y = if y = Str.ofString "final_byte_value" then some (.int ((KBw.bInts b).getLast?.getD 0) t') else m y) → News base L h' (new ++ [(LC, { oL with slots := sl })]) → Q .next { s with heap := h', toks := tk' }) :
   wpAny (model PWR w) (A₀.deeper (encEnv L)) (exec (nth (fnBody 2) 6) (encEnv L)) Q noE s := by
  revert X
  k_fill
  intro X
  have F := fr_known (x := Str.ofString "in_bytes_mv") F e1
  have hmap : ∀ (t' : Tok) (v : Int) y, (if y = Str.ofString "final_byte_value" then some (Value.int v t') else if y = Str.ofString "in_bytes_mv" then some (Value.bytes b t) else m y) = if y = Str.ofString "final_byte_value" then some (.int v t') else m y := by
    intro t' v y
    split
    · rfl
    · split
      · rename_i e; rw [e, e1]
      · rfl
  show wpAny _ _ (exec (.Try _ _ _ _ _) _) _ _ _
  by_cases hb : b.size = 0
  · have : b = #[] := Array.eq_empty_of_size_eq_zero hb
    subst this
    k_steps
    refine bytes_item_out hh (by decide) fun h' tk' e hX => ?_
    refine TLg.noted_new1 hfr hC hX F N hne (fun h2 sl Fs H => ?_)
    refine TT.HeldNA.land H (fun h3 H3 => ?_)
    refine TT.clause_hitTN H3 T (k := fun h4 F4 N4 => ?_)
    clear F N
    k_steps
    exact hQ _ _ _ sl _ (by k_asm) (hmap _ _) (by k_asm)
  · k_steps
    refine KBc.itemR_K rfl (by rw [KBw.ints_length]; omega) (by rw [KBw.ints_length]; omega) (by decide) fun t' k h0 h1 => ?_
    k_steps
    have e : (KBw.bInts b).getD (-1 + ((KBw.bInts b).length : Int)).toNat 0 = (KBw.bInts b).getLast?.getD 0 := by
      rw [List.getLast?_eq_getElem?, List.getD_eq_getElem?_getD]
      congr 2
      rw [KBw.ints_length]; omega
    exact hQ _ _ t' oL.slots _ (by k_asm) (fun y => by rw [← e]; exact hmap _ _ y) (by k_asm)
end Mine

end

section
open PySem PySem.W PyProof.Rows PySem.Calls
open PySem.Sem (wp)
set_option maxRecDepth 100000
set_option maxHeartbeats 4000000
set_option linter.unusedVariables false
namespace Mine
theorem enc_end {w : World} {A : Around} {s : Shared} {base : Heap} {L B : Addr} {b out : Array UInt8} {t ti tj tf : Tok} {j : Nat} {f : Int} {m : Str → Option Value} {mean} {mg mb : Str → Option Value} {Q : Flow → Shared → Prop} {rest : List (Addr × Obj)}
   (X : (hd.heap_39 w.params).In base) (T : TopP mean mg mb base) (hsz : b.size ≤ 1000)
   (F : Fr base L s.heap m) (N : News base L s.heap ((B, baObj out) :: rest)) (hBr : ∀ p ∈ rest, p.1 ≠ B)
   (e1 : m (Str.ofString "in_bytes_mv") = some (.bytes b t)) (e2 : m (Str.ofString "out_bytes") = some (.ref B)) (e3 : m (Str.ofString "idx") = some (.int (b.size : Int) ti)) (e4 : m (Str.ofString "search_start_idx") = some (.int (j : Int) tj))
   (e5 : m (Str.ofString "final_byte_value") = some (.int f tf)) (hf : f = (KBw.bInts b).getLast?.getD 0)
   (hE : EncInv (KBw.bInts b) b.size j (KBw.bInts out)) (hEd : Edge (KBw.bInts b) b.size j)
   (hQ : ∀ h' tk' m₂ r t', Fr base L h' m₂ → News base L h' rest → Enc (KBw.bInts b) (KBw.bInts r) → r.size ≤ 3000 → Q (.ret (.bytes r t')) { s with heap := h', toks := tk' }) :
   wpG (model PySem.Challenge.rw_nc0008_01.row.prog w) A (execs ((fnBody 2).drop 7) (encEnv L)) Q s := by
  revert X
  k_fill
  intro X
  have F := fr_known (x := Str.ofString "in_bytes_mv") (fr_known (x := Str.ofString "out_bytes") (fr_known (x := Str.ofString "idx") (fr_known (x := Str.ofString "search_start_idx") (fr_known (x := Str.ofString "final_byte_value") F e5) e4) e3) e2) e1
  have hlen : (KBw.bInts b).length = b.size := KBw.ints_length b
  have hosz : out.size = (KBw.bInts out).length := (KBw.ints_length out).symm
  have hsize := hE.size
  have hle := hE.le
  have hfew := hE.few
  have hfl : ∀ x, (KBw.bInts b).getLast? = some x → 0 ≤ x ∧ x < 256 := fun x hx => KBw.ints_in (List.mem_of_getLast? hx)
  have hf0 : 0 ≤ f ∧ f < 256 := by
    rw [hf]
    cases h : (KBw.bInts b).getLast? with
    | none => decide
    | some x => exact hfl x h
  refine execsG_leaf ?_
  k_steps
  (with_reducible rename Fr _ _ _ _ => F1)
  (with_reducible rename News _ _ _ _ => N1)
  refine execsG_cons (ifG ?_)
  (try clear F)
  (try clear N)
  k_steps
  · rename_i hlt
    refine appendStmt (pre := []) (post := rest) (B := B) F1 N1 (by simp) hBr rfl (c := (b.size : Int) - j + 1) ?he (by omega) (by omega) (by omega) fun h1 tk1 out1 ho1 hz1 F2 N2 => ?_
    case he =>
      intro Q' hQ'
      k_steps
      exact hQ' _ _
    (try clear F1)
    (try clear N1)
    refine iaddStmt (pre := []) (post := rest) (B := B) F2 N2 (by simp) hBr rfl (D := ((KBw.bInts b).take b.size).drop j) ?he ?hz fun h2 tk2 out2 ho2 hz2 F3 N3 => ?_
    case he =>
      intro Q' hQ'
      k_steps
      refine slice_bytes (s := ⟨_, _, _, _, _⟩) (by omega) fun d t' h' tk' hd hk => hQ' d t' h' tk' ?_ hk
      rw [hd, clip_nat (by omega), clip_nat (by omega), List.drop_take]
    case hz => rw [slice_len (by omega)]; omega
    (try clear F2)
    (try clear N2)
    refine execsG_nil ?_
    dsimp only
    refine execsG_leaf ?_
    k_steps
    refine call_bytes_ba (b := out2) ?_ ?_ fun t' k => ?_
    · exact N3.get (.head _)
    · rw [sizeLine_eq]; rw [slice_len (by omega)] at hz2; omega
    refine hQ _ _ _ out2 t' F3 (fun p hp => N3 p (.tail _ hp)) ?_ (by rw [slice_len (by omega)] at hz2; omega)
    rw [ho2, ho1, List.append_assoc]
    have := hE
    rw [← hlen] at this ⊢
    exact this.endLen
  · rename_i hge
    have hne : (KBw.bInts b).getLast? = some f := by
      cases h : (KBw.bInts b).getLast? with
      | none => rw [h] at hf; simp at hf; omega
      | some x => rw [h] at hf; simp at hf; rw [hf]
    have hpos : 0 < b.size := by
      rw [← hlen]
      cases h : KBw.bInts b with
      | nil => rw [h] at hne; simp at hne
      | cons _ _ => simp
    refine appendStmt (pre := []) (post := rest) (B := B) F1 N1 (by simp) hBr rfl (c := f) ?he (by omega) (by omega) (by omega) fun h1 tk1 out1 ho1 hz1 F2 N2 => ?_
    case he =>
      intro Q' hQ'
      k_steps
      exact hQ' _ _
    (try clear F1)
    (try clear N1)
    refine iaddStmt (pre := []) (post := rest) (B := B) F2 N2 (by simp) hBr rfl (D := ((KBw.bInts b).take (b.size - 1)).drop j) ?he ?hz fun h2 tk2 out2 ho2 hz2 F3 N3 => ?_
    case he =>
      intro Q' hQ'
      k_steps
      refine slice_bytes (s := ⟨_, _, _, _, _⟩) (by omega) fun d t' h' tk' hd hk => hQ' d t' h' tk' ?_ hk
      have e : (b.size : Int) - 1 = ((b.size - 1 : Nat) : Int) := by omega
      rw [hd, e, clip_nat (by omega), clip_nat (by omega), List.drop_take]
    case hz => rw [slice_len (by omega)]; omega
    (try clear F2)
    (try clear N2)
    refine execsG_nil ?_
    dsimp only
    refine execsG_leaf ?_
    k_steps
    refine call_bytes_ba (b := out2) ?_ ?_ fun t' k => ?_
    · exact N3.get (.head _)
    · rw [sizeLine_eq]; rw [slice_len (by omega)] at hz2; omega
    refine hQ _ _ _ out2 t' F3 (fun p hp => N3 p (.tail _ hp)) ?_ (by rw [slice_len (by omega)] at hz2; omega)
    rw [ho2, ho1, List.append_assoc]
    have h1' := hE
    have h2' := hEd
    rw [← hlen] at h1' h2' ⊢
    exact h1'.endSelf h2' hne (by rw [hlen]; omega)
end Mine

end

section
open PySem PySem.W PyProof.Rows PySem.Calls
open PySem.Sem (wp)
set_option maxRecDepth 100000
set_option maxHeartbeats 4000000
set_option linter.unusedVariables false
namespace Mine
theorem gone_size (h : Heap) : ∀ l : List Addr, (TI.gone h l).objs.size = h.objs.size
  | [] => rfl
  | a :: l => by show ((TI.gone h l).update a _).objs.size = _; rw [Heap.size_after_update, gone_size h l]
theorem gone_one {h : Heap} {a b : Addr} {o : Obj} (hb : b ≠ a) (e : h.get? b = some o) : (TI.gone h [a]).get? b = some o := by
  rw [TI.gone_get (by simpa using hb)]; exact e

/-- the ground of a call from law's frame LC: all but that frame stays -/
structure CallG (b0 : Heap) (LC : Addr) (mC : Str → Option Value) (h : Heap) (oL : Obj) : Prop where
  fr : Fr b0 LC h mC
  at_ : h.get? LC = some oL
  dict : ∃ es ep, oL.data = .dict es ep
theorem callG_of {b0 h : Heap} {LC : Addr} {mC : Str → Option Value} (F : Fr b0 LC h mC) : ∃ oL, CallG b0 LC mC h oL := by
  obtain ⟨oL, es, ep, h1, h2, _⟩ := id F.ns
  exact ⟨oL, F, h1, es, ep, h2⟩
theorem CallG.sub {b0 h : Heap} {LC : Addr} {mC : Str → Option Value} {oL : Obj} (C : CallG b0 LC mC h oL) : ∀ b o, b0.get? b = some o → (TI.gone h [LC]).get? b = some o :=
  fun b o e => gone_one (Nat.ne_of_lt (Nat.lt_of_lt_of_le (Heap.lt_size e) C.fr.above)) (C.fr.keep b o e)
/-- the callee's frame upon that ground -/
theorem CallG.enter {b0 h h₁ : Heap} {LC : Addr} {mC m : Str → Option Value} {oL : Obj} (C : CallG b0 LC mC h oL) (F : Fr h h.objs.size h₁ m) :
    Fr (TI.gone h [LC]) h.objs.size h₁ m ∧ News (TI.gone h [LC]) h.objs.size h₁ [(LC, oL)] := by
  refine ⟨⟨F.ns, fun b o e => F.keep b o (TI.gone_some e).2, Nat.le_of_eq (gone_size h _)⟩, fun p hp => ?_⟩
  rw [List.mem_singleton.mp hp]
  exact ⟨F.keep _ _ C.at_, Nat.ne_of_lt (Heap.lt_size C.at_), TI.gone_none (by simp)⟩
/-- and back -/
theorem CallG.leave {b0 h h' : Heap} {LC L : Addr} {mC m' : Str → Option Value} {oL : Obj} {sl : Array (Option Value)} (C : CallG b0 LC mC h oL) (F : Fr (TI.gone h [LC]) L h' m') (hL : h'.get? LC = some { oL with slots := sl }) :
    (∀ b o, b ≠ LC → h.get? b = some o → h'.get? b = some o) ∧ Fr b0 LC h' mC := by
  have hk : ∀ b o, b ≠ LC → h.get? b = some o → h'.get? b = some o := fun b o hb e => F.keep b o (gone_one hb e)
  refine ⟨hk, ⟨?_, fun b o e => F.keep b o (C.sub b o e), C.fr.above⟩⟩
  obtain ⟨oL', es, ep, h1, h2, h3⟩ := C.fr.ns
  have : oL' = oL := by rw [C.at_] at h1; exact (Option.some.inj h1).symm
  subst this
  exact ⟨_, es, ep, hL, h2, h3⟩

theorem encode_call {w : World} {A : Around} {s : Shared} {b0 : Heap} {LC : Addr} {mC : Str → Option Value} {envC : Env} {b : Array UInt8} {t : Tok} {Q : Value → Shared → Prop} {mean} {mg mb : Str → Option Value} (X : (hd.heap_39 w.params).In b0)
   (T : Top hd.view_39 (looseW hd.view_39 []) mean mg mb b0) (hroom : A.depth < recursionLimit) (hh : A.handled = none) (hfr : A.frames = some [envC]) (hCf : envC.frame = some LC) (hCk : envC.scope.kind ≠ .module)
   (FC : Fr b0 LC s.heap mC) (hsz : b.size ≤ 1000)
   (hQ : ∀ r t' h' tk', (∀ b o, b ≠ LC → s.heap.get? b = some o → h'.get? b = some o) → Fr b0 LC h' mC → Enc (KBw.bInts b) (KBw.bInts r) → r.size ≤ 3000 → Q (.bytes r t') { s with heap := h', toks := tk' }) :
   wpG (model PySem.Challenge.rw_nc0008_01.row.prog w) A (call (.ref 34) [.bytes b t]) Q s := by
  revert X
  k_fill
  intro X
  obtain ⟨oL, C⟩ := callG_of FC
  have X0 : (hd.heap_39 w.params).In s.heap := X.keeps FC.keep
  have T0 : Top hd.view_39 (looseW hd.view_39 []) mean mg mb s.heap := T.keeps FC.keep
  have X1 : (hd.heap_39 w.params).In (TI.gone s.heap [LC]) := X.keeps C.sub
  have T1 : Top hd.view_39 (looseW hd.view_39 []) mean mg mb (TI.gone s.heap [LC]) := T.keeps C.sub
  refine wpG_call ?_
  refine' codeG_call_def hroom X0 ?k6 T0.nolimit ?k7 ?k9 ?kB ?_ ?c2 ?c3 ?c4 ?c5
  case k6 => k_is
  case k7 => k_is
  case k9 => exact BindsTo.of_eq rfl
  case kB => exact locs rfl
  case c2 => exact rfl
  case c3 => exact rfl
  case c4 => exact rfl
  case c5 => decide
  intro h₁ F0
  obtain ⟨F, N⟩ := C.enter F0
  have hfin : ∀ h' m' sl, Fr (TI.gone s.heap [LC]) s.heap.objs.size h' m' → News (TI.gone s.heap [LC]) s.heap.objs.size h' [(LC, { oL with slots := sl })] → (∀ b o, b ≠ LC → s.heap.get? b = some o → h'.get? b = some o) ∧ Fr b0 LC h' mC :=
    fun h' m' sl F' N' => C.leave F' (N'.get (.head _))
  clear F0 X X0 T T0 FC
  have hfrs : TI.Frs [envC] [(LC, oL)] := ⟨hCk, hCf, C.dict, trivial⟩
  clear C
  generalize s.toks + _ = tk0
  generalize s.heap.objs.size = L at F N hfin ⊢
  generalize TI.gone s.heap [LC] = base at F N hfin X1 T1
  -- the kind of the argument; its name
  refine execsG_leaf ?_
  k_steps
  dsimp only
  refine execsG_leaf ?_
  k_steps
  dsimp only
  -- out_bytes = bytearray()
  refine execsG_cons (assignG (callName0G ?_))
  k_steps
  (with_reducible rename Fr _ _ _ _ => F1)
  (with_reducible rename News _ _ _ _ => N1)
  refine callWithG_type rfl (evalArgs0G (call_bytearray fun h2 hk hB => ?_))
  obtain ⟨F2, N2, lt2⟩ := led_new F1 N1 hk hB
  (try clear F1)
  (try clear N1)
  clear hk hB
  dsimp only at F2 N2 lt2 ⊢
  generalize Array.size _ = B at F2 N2 lt2 ⊢
  have hBC : LC < B := lt2 _ (.head _)
  clear lt2
  k_steps
  refine execsG_leaf ?_
  k_steps
  refine execsG_leaf ?_
  k_steps
  dsimp only
  -- the loop
  refine execsG_cons (forG ?_)
  k_steps
  refine KBw.pyIter_bytes ?_
  (with_reducible rename Fr _ _ _ _ => F3)
  (with_reducible rename News _ _ _ _ => N3)
  dsimp only at F3 N3 ⊢
  refine' forLedG (h₀ := base) (KBw.walks (by exact hh) _ b t) rfl rfl ?hLf ?hI ?hnw ?hst ?hIs ?hIst (F3.push _) ?hN
    (fun i m news => ∃ (j : Nat) (out : Array UInt8) (ti tj : Tok), news = [(B, baObj out), (LC, oL)] ∧ m (Str.ofString "in_bytes_mv") = some (.bytes b t) ∧ m (Str.ofString "out_bytes") = some (.ref B) ∧ m (Str.ofString "idx") = some (.int (i : Int) ti) ∧
      m (Str.ofString "search_start_idx") = some (.int (j : Int) tj) ∧ EncInv (KBw.bInts b) i j (KBw.bInts out) ∧ Edge (KBw.bInts b) i j) ?h0 ?step ?hR
  case hLf => exact fun hm => absurd F3.ns.lt ((List.mem_singleton.mp hm) ▸ Nat.lt_irrefl _)
  case hI => exact next_is_new F3
  case hnw => exact fun p hp e => absurd (Heap.lt_size (N3 p hp).1) (e ▸ Nat.lt_irrefl _)
  case hst => exact ⟨_, Heap.get?_push_size _ rfl, rfl, rfl⟩
  case hIs => exact ⟨_, Heap.get?_push_size _ rfl⟩
  case hIst => exact fun i h st => ⟨_, st.choose_spec.1⟩
  case hN => exact fun p hp => ⟨Heap.get?_push_of_some _ (N3 p hp).1, (N3 p hp).2⟩
  case h0 => exact ⟨0, #[], _, _, rfl, rfl, rfl, rfl, rfl, encInv_zero _, .inr (.inl rfl)⟩
  case step =>
    clear F3 N3
    rintro i v m₁ news₁ h tk oI hi ⟨c, u, hc, rfl⟩ - ⟨j, out, ti, tj, rfl, e1, e2, e3, e4, hE, hEd⟩ hoff F N
    have hBI := hoff _ (.head _)
    have hLCI := hoff _ (.tail _ (.head _))
    refine enc_turn X1 T1 hsz F N hBI (fun p hp => by rw [List.mem_singleton.mp hp]; exact Nat.ne_of_lt hBC) e1 e2 e3 e4 (KBw.ints_get hc) hE ?_
    intro h' tk' m₂ j' out' ti' tj' F' N' a1 a2 a3 a4 a5 a6
    refine ⟨h', tk', m₂, _, rfl, F', N', ?_, fun b hb hbI => absurd (List.mem_singleton.mp hb) hbI, j', out', ti', tj', rfl, a1, a2, a3, a4, a5, a6⟩
    intro p hp
    rcases List.mem_cons.mp hp with rfl | hp
    · exact hBI
    · rw [List.mem_singleton.mp hp]; exact hLCI
  case hR =>
    clear F3 N3
    rintro h tk m₁ news₁ F N hoff ⟨j, out, ti, tj, rfl, e1, e2, e3, e4, hE, hEd⟩
    dsimp only
    refine execsG_leaf (enc_last (new := [(B, baObj out)]) X1 T1 hh hfr hfrs hsz F N ⟨Nat.ne_of_gt hBC, trivial⟩ e1 ?_)
    intro h' tk' t' sl m' F' hm' N'
    dsimp only
    have g : ∀ y v, y ≠ Str.ofString "final_byte_value" → m₁ y = some v → m' y = some v := fun y v hy e => by rw [hm', if_neg hy]; exact e
    refine enc_end (rest := [(LC, { oL with slots := sl })]) X1 T1 hsz F' N' (fun p hp => by rw [List.mem_singleton.mp hp]; exact Nat.ne_of_lt hBC) (g _ _ (by decide) e1) (g _ _ (by decide) e2) (g _ _ (by decide) e3) (g _ _ (by decide) e4)
      (by rw [hm', if_pos rfl]) rfl hE hEd ?_
    intro h2 tk2 m₂ r t2 F2 N2 hEnc hr
    obtain ⟨k1, k2⟩ := hfin h2 m₂ sl F2 N2
    exact hQ r t2 h2 tk2 k1 k2 hEnc hr
end Mine

end

section
namespace Mine
theorem take_split {ks : List Int} {i e : Nat} {c : Int} (hc : ks[i]? = some c) (he : i < e) : ks.take e = ks.take i ++ c :: (ks.take e).drop (i + 1) := by
  have hlt : i < ks.length := (List.getElem?_eq_some_iff.mp hc).1
  have h2 : (ks.take e).take i = ks.take i := by rw [List.take_take, Nat.min_eq_left (by omega)]
  have h3 : (ks.take e).drop i = c :: (ks.take e).drop (i + 1) := by
    have hl : i < (ks.take e).length := by simp; omega
    rw [List.drop_eq_getElem_cons hl]
    congr 1
    rw [List.getElem_take]
    exact (List.getElem?_eq_some_iff.mp hc).2
  have h1 := List.take_append_drop i (ks.take e)
  rw [h2, h3] at h1
  exact h1.symm

/-- decode stands at a code -/
structure DecInv (ks : List Int) (i : Nat) (out : List Int) : Prop where
  lt : i < ks.length
  at_ : (rrun RS.init (ks.take i)).At out
  size : out.length ≤ 2 * i

theorem decInv_zero {ks : List Int} (h : 0 < ks.length) : DecInv ks 0 [] := ⟨h, by simpa [rrun_nil] using init_at, by simp⟩

theorem DecInv.run {ks : List Int} {i e : Nat} {out : List Int} {c : Int} (h : DecInv ks i out) (hc : ks[i]? = some c) (hie : i < e) (hl : (((ks.take e).drop (i + 1)).length : Int) ≤ c - 1) :
    rrun RS.init (ks.take e) = ⟨out ++ (ks.take e).drop (i + 1), c, c - 1 - (((ks.take e).drop (i + 1)).length : Int)⟩ :=
  (congrArg (rrun RS.init) (take_split hc hie)).trans ((rrun_append _ _ _).trans (block h.at_ c _ hl))
theorem DecInv.go {ks : List Int} {i e : Nat} {out : List Int} {c : Int} (h : DecInv ks i out) (hc : ks[i]? = some c) (h1 : 1 ≤ c) (he : (e : Int) = i + c) (hlt : e < ks.length) :
    DecInv ks e ((out ++ (ks.take e).drop (i + 1)) ++ sepOf c) := by
  have hl : ((ks.take e).drop (i + 1)).length = e - (i + 1) := by simp; omega
  refine ⟨hlt, ?_, ?_⟩
  · rw [h.run hc (by omega) (by omega)]
    exact ⟨by show c - 1 - _ = 0; omega, rfl⟩
  · have := h.size
    have hs : (sepOf c).length ≤ 1 := by unfold sepOf; split <;> simp
    simp only [List.length_append, hl]
    omega
theorem DecInv.full {ks : List Int} {i e : Nat} {out : List Int} {c : Int} (h : DecInv ks i out) (hc : ks[i]? = some c) (h1 : 1 ≤ c) (he : (e : Int) = i + c) (hlt : e = ks.length) :
    out ++ (ks.take e).drop (i + 1) = rfin (rrun RS.init ks) := by
  have hl : ((ks.take e).drop (i + 1)).length = e - (i + 1) := by simp; omega
  have ht : ks.take e = ks := by rw [hlt, List.take_length]
  have hr := h.run (e := e) hc (by omega) (by omega)
  rw [ht] at hr hl ⊢
  rw [hr]
  unfold rfin
  rw [if_neg (by show ¬ 0 < c - 1 - _; omega)]
theorem DecInv.short {ks : List Int} {i e : Nat} {out : List Int} {c : Int} (h : DecInv ks i out) (hc : ks[i]? = some c) (h1 : 1 ≤ c) (he : (e : Int) = i + c) (hlt : ks.length < e) :
    (out ++ (ks.take e).drop (i + 1)) ++ [c] = rfin (rrun RS.init ks) := by
  have hilt := h.lt
  have hl : ((ks.take e).drop (i + 1)).length = ks.length - (i + 1) := by simp; omega
  have ht : ks.take e = ks := by rw [List.take_of_length_le (by omega)]
  have hr := h.run (e := e) hc (by omega) (by omega)
  rw [ht] at hr hl ⊢
  rw [hr]
  unfold rfin
  rw [if_pos (by show 0 < c - 1 - _; omega)]
end Mine

end

section
open PySem PySem.W PyProof.Rows PySem.Calls
open PySem.Sem (wp)
set_option maxRecDepth 100000
set_option maxHeartbeats 4000000
set_option linter.unusedVariables false
namespace Mine
def decWhile : List Stmt := whileBody (nth (ifBody (nth (fnBody 3) 4)) 0)
abbrev decEnv (L : Addr) : Env := envOf (Str.ofString "decode") (fnScope 3) L 41 (Value.ref 40)
theorem gives_contains0 (d : Array UInt8) (t u : Tok) : Gives (Builtin.«bytes.__contains__» ⟨[.bytes d t, .int 0 u], []⟩) (.val (.bool (d.contains 0))) := by
  refine .of_wp fun M A E s Q hq => ?_
  unfold Builtin.«bytes.__contains__»
  refine wpAny_bind (wpAny_of_eq (a := (.bytes d t, [.int 0 u])) rfl ?_)
  refine wpAny_bind ?_
  unfold Builtin.Bytes.containsIn
  refine wpAny_bind (wpAny_attempt (wpAny_of_eq (rfl : asIndex (.int 0 u) = pure 0) ?_))
  refine wpAny_bind (wpAny_of_eq KBy.buffer_eq ?_)
  refine bm_if_false (by decide) ?_
  exact wpAny_pure (wpAny_pure ⟨_, rfl, hq⟩)
theorem in_bytes0 {prog : Program} {w : World} {A : Around} {E : Value → Shared → Prop} {s : Shared} {d : Array UInt8} {t u : Tok} {Q : Value → Shared → Prop} (hd : ∀ c ∈ KBw.bInts d, c ≠ 0) (h : Q (.bool false) s) :
    wpAny (model prog w) A (compareOp .In (.int 0 u) (.bytes d t)) Q E s := by
  have e : d.contains 0 = false := by
    cases h : d.contains 0 with
    | false => rfl
    | true =>
      have hm : (0 : UInt8) ∈ d.toList := by
        have := Array.contains_iff_mem.mp h
        exact Array.mem_toList_iff.mpr this
      exact absurd rfl (hd 0 (List.mem_map.mpr ⟨0, hm, rfl⟩))
  refine in_gives (typeIs_bytes s d t) FB.slot_bytes_contains FB.entry_bytes_contains (FB.args_bytes_contains_2 _ _) (gives_contains0 d t u) ?_
  rw [e]; exact h

theorem dec_turn {w : World} {A : Around} {s : Shared} {base : Heap} {L B : Addr} {b out : Array UInt8} {t ti : Tok} {i : Nat} {c : Int} {m : Str → Option Value} {mean} {mg mb : Str → Option Value} {Q : Flow → Shared → Prop}
   (X : (hd.heap_39 w.params).In base) (T : Top hd.view_39 (looseW hd.view_39 []) mean mg mb base) (hsz : b.size ≤ 3000) (hnz : ∀ c ∈ KBw.bInts b, c ≠ 0)
   (F : Fr base L s.heap m) (N : News base L s.heap [(B, baObj out)])
   (e1 : m (Str.ofString "in_bytes_mv") = some (.bytes b t)) (e2 : m (Str.ofString "out_bytes") = some (.ref B)) (e3 : m (Str.ofString "idx") = some (.int (i : Int) ti))
   (hD : DecInv (KBw.bInts b) i (KBw.bInts out))
   (hQ : ∀ h' tk' m₂ i' out' ti', i < i' → Fr base L h' m₂ → News base L h' [(B, baObj out')] → m₂ (Str.ofString "in_bytes_mv") = some (.bytes b t) → m₂ (Str.ofString "out_bytes") = some (.ref B) →
      m₂ (Str.ofString "idx") = some (.int ((i' : Nat) : Int) ti') → DecInv (KBw.bInts b) i' (KBw.bInts out') → Q .next { s with heap := h', toks := tk' })
   (hB : ∀ h' tk' m₂ out', Fr base L h' m₂ → News base L h' [(B, baObj out')] → m₂ (Str.ofString "out_bytes") = some (.ref B) → KBw.bInts out' = rfin (rrun RS.init (KBw.bInts b)) → out'.size ≤ 20000 → Q .brk { s with heap := h', toks := tk' }) :
   wpG (model PySem.Challenge.rw_nc0008_01.row.prog w) A (execs decWhile (decEnv L)) Q s := by
  revert X
  k_fill
  intro X
  have hlen : (KBw.bInts b).length = b.size := KBw.ints_length b
  have hosz : out.size = (KBw.bInts out).length := (KBw.ints_length out).symm
  have hsize := hD.size
  have hilt := hD.lt
  obtain ⟨c, hc⟩ : ∃ c, (KBw.bInts b)[i]? = some c := ⟨_, List.getElem?_eq_getElem hilt⟩
  have hcm := List.mem_of_getElem? hc
  have hc0 := hnz c hcm
  obtain ⟨hc1, hc2⟩ := KBw.ints_in hcm
  have F := fr_known (x := Str.ofString "in_bytes_mv") (fr_known (x := Str.ofString "out_bytes") (fr_known (x := Str.ofString "idx") F e3) e2) e1
  refine execsG_leaf ?_
  k_steps
  have hgd : (KBw.bInts b).getD (i : Int).toNat 0 = c := by
    rw [List.getD_eq_getElem?_getD, Int.toNat_natCast, hc]; rfl
  refine KBw.item_K rfl (by rw [hlen]; omega) (by omega) (by omega) fun t' k _ _ => ?_
  rw [hgd]
  k_steps
  dsimp only
  refine execsG_cons (ifG ?_)
  k_steps
  · exact absurd ‹c = 0› hc0
  refine execsG_nil ?_
  dsimp only
  refine execsG_leaf ?_
  k_steps
  dsimp only
  refine execsG_leaf ?_
  k_steps
  dsimp only
  refine execsG_leaf ?_
  k_steps
  have hce : ((i + c.toNat : Nat) : Int) = i + c := by omega
  refine slice_bytes (s := ⟨_, _, _, _, _⟩) (by omega) fun d t' h' tk' hd hk => ?_
  have hd : KBw.bInts d = ((KBw.bInts b).take (i + c.toNat)).drop (i + 1) := by
    have e1 : (i : Int) + 1 = ((i + 1 : Nat) : Int) := by omega
    have e2 : (i : Int) + 1 + c - 1 = ((i + c.toNat : Nat) : Int) := by omega
    have hlo : clipAt b.size ((i + 1 : Nat) : Int) = i + 1 := clip_nat (by omega)
    rw [hd, e2, e1, hlo, List.drop_take]
    by_cases hle : i + c.toNat ≤ b.size
    · rw [clip_nat hle]
    · have h3 : clipAt b.size ((i + c.toNat : Nat) : Int) = b.size := by rw [clipAt_nat]; omega
      rw [h3, List.take_of_length_le (by simp [hlen]), List.take_of_length_le (by simp [hlen]; omega)]
  (with_reducible rename Fr _ _ _ _ => F1)
  (with_reducible rename News _ _ _ _ => N1)
  obtain ⟨F2, N2⟩ := led_ext F1 N1 hk
  clear F1 N1 hk
  dsimp only at F2 N2 ⊢
  k_steps
  dsimp only
  refine execsG_cons (ifG ?_)
  k_steps
  refine in_bytes0 (fun x hx => hnz x (List.mem_of_mem_take (List.mem_of_mem_drop (hd ▸ hx)))) ?_
  k_steps
  refine execsG_nil ?_
  dsimp only
  (with_reducible rename Fr _ _ _ _ => F3)
  (with_reducible rename News _ _ _ _ => N3)
  have hdl : (((KBw.bInts b).take (i + c.toNat)).drop (i + 1)).length ≤ 300 := by simp; omega
  refine iaddStmt (pre := []) (post := []) (B := B) F3 N3 (by simp) (by simp) rfl (D := ((KBw.bInts b).take (i + c.toNat)).drop (i + 1)) ?he ?hz fun h2 tk2 out2 ho2 hz2 F4 N4 => ?_
  case he =>
    intro Q' hQ'
    k_steps
    exact hQ' d _ _ _ hd (fun _ _ e => e)
  case hz => omega
  (try clear F3)
  (try clear N3)
  refine execsG_leaf ?_
  k_steps
  dsimp only
  refine execsG_cons (ifG ?_)
  k_steps
  · rename_i hgt
    (with_reducible rename Fr _ _ _ _ => F5)
    (with_reducible rename News _ _ _ _ => N5)
    refine appendStmt (pre := []) (post := []) (B := B) F5 N5 (by simp) (by simp) rfl (c := c) ?he (by omega) (by omega) (by omega) fun h1 tk1 out3 ho3 hz3 F6 N6 => ?_
    case he =>
      intro Q' hQ'
      k_steps
      exact hQ' _ _
    refine execsG_leaf ?_
    k_steps
    dsimp only
    refine hB h1 _ _ out3 F6 N6 rfl ?_ (by omega)
    rw [ho3, ho2]
    exact hD.short hc (by omega) hce (by rw [hlen]; omega)
  · rename_i hgt
    refine execsG_cons (ifG ?_)
    k_steps
    · rename_i hlt
      refine execsG_cons (ifG ?_)
      k_steps
      · rename_i h255
        (with_reducible rename Fr _ _ _ _ => F5)
        (with_reducible rename News _ _ _ _ => N5)
        refine appendStmt (pre := []) (post := []) (B := B) F5 N5 (by simp) (by simp) rfl (c := 0) ?he (by omega) (by omega) (by omega) fun h1 tk1 out3 ho3 hz3 F6 N6 => ?_
        case he =>
          intro Q' hQ'
          k_steps
          exact hQ' _ _
        refine execsG_nil (execsG_nil (execsG_nil (execsG_nil ?_)))
        refine hQ h1 _ _ (i + c.toNat) out3 _ (by omega) F6 N6 rfl rfl (by rw [hce]; exact congrArg (fun z => some (Value.int z _)) (by omega)) ?_
        have hg := hD.go hc (by omega) hce (by rw [hlen]; omega)
        have hs : sepOf c = [0] := by unfold sepOf; rw [if_pos (by omega)]
        rw [hs] at hg
        rw [ho3, ho2]
        exact hg
      · rename_i h255
        (with_reducible rename Fr _ _ _ _ => F5)
        (with_reducible rename News _ _ _ _ => N5)
        refine execsG_nil (execsG_nil (execsG_nil (execsG_nil ?_)))
        refine hQ _ _ _ (i + c.toNat) out2 _ (by omega) F5 N5 rfl rfl (by rw [hce]; exact congrArg (fun z => some (Value.int z _)) (by omega)) ?_
        have hg := hD.go hc (by omega) hce (by rw [hlen]; omega)
        have hs : sepOf c = [] := by unfold sepOf; rw [if_neg (by omega)]
        rw [hs, List.append_nil] at hg
        rw [ho2]
        exact hg
    · rename_i hlt
      (with_reducible rename Fr _ _ _ _ => F5)
      (with_reducible rename News _ _ _ _ => N5)
      refine execsG_leaf ?_
      k_steps
      dsimp only
      refine hB _ _ _ out2 F5 N5 rfl ?_ (by omega)
      rw [ho2]
      exact hD.full hc (by omega) hce (by rw [hlen]; omega)
end Mine

end

section
open PySem PySem.W PyProof.Rows PySem.Calls
open PySem.Sem (wp)
set_option maxRecDepth 100000
set_option maxHeartbeats 4000000
set_option linter.unusedVariables false
namespace Mine
theorem decode_call {w : World} {A : Around} {s : Shared} {b : Array UInt8} {t : Tok} {Q : Value → Shared → Prop} {mean} {mg mb : Str → Option Value} (X : (hd.heap_39 w.params).In s.heap)
   (T : Top hd.view_39 (looseW hd.view_39 []) mean mg mb s.heap) (hroom : A.depth < recursionLimit) (hh : A.handled = none)
   (hsz : b.size ≤ 3000) (hnz : ∀ c ∈ KBw.bInts b, c ≠ 0)
   (hQ : ∀ r t' h' tk', (∀ b o, s.heap.get? b = some o → h'.get? b = some o) → KBw.bInts r = rfin (rrun RS.init (KBw.bInts b)) → r.size ≤ 20000 → Q (.bytes r t') { s with heap := h', toks := tk' }) :
   wpG (model PySem.Challenge.rw_nc0008_01.row.prog w) A (call (.ref 41) [.bytes b t]) Q s := by
  revert X
  k_fill
  intro X
  refine wpG_call ?_
  refine' codeG_call_def hroom X ?k6 T.nolimit ?k7 ?k9 ?kB ?_ ?c2 ?c3 ?c4 ?c5
  case k6 => k_is
  case k7 => k_is
  case k9 => exact BindsTo.of_eq rfl
  case kB => exact locs rfl
  case c2 => exact rfl
  case c3 => exact rfl
  case c4 => exact rfl
  case c5 => decide
  intro h₁ F
  have N : News s.heap s.heap.objs.size h₁ [] := News.nil
  generalize s.toks + _ = tk0
  generalize s.heap.objs.size = L at F N ⊢
  refine execsG_leaf ?_
  k_steps
  dsimp only
  refine execsG_leaf ?_
  k_steps
  dsimp only
  refine execsG_cons (assignG (callName0G ?_))
  k_steps
  (with_reducible rename Fr _ _ _ _ => F1)
  (with_reducible rename News _ _ _ _ => N1)
  refine callWithG_type rfl (evalArgs0G (call_bytearray fun h2 hk hB => ?_))
  obtain ⟨F2, N2, lt2⟩ := led_new F1 N1 hk hB
  (try clear F1)
  (try clear N1)
  clear hk hB
  dsimp only at F2 N2 lt2 ⊢
  generalize Array.size _ = B at F2 N2 ⊢
  k_steps
  dsimp only
  refine execsG_leaf ?_
  k_steps
  dsimp only
  have hlen : (KBw.bInts b).length = b.size := KBw.ints_length b
  -- behind the loop
  have fin : ∀ h' tk' m₂ out', Fr s.heap L h' m₂ → News s.heap L h' [(B, baObj out')] → m₂ (Str.ofString "out_bytes") = some (.ref B) → KBw.bInts out' = rfin (rrun RS.init (KBw.bInts b)) → out'.size ≤ 20000 →
      wpG (model PySem.Challenge.rw_nc0008_01.row.prog w) (A.deeper (decEnv L)) (execs ((fnBody 3).drop 5) (decEnv L))
        (fun f s' => Q (match f with | .ret v => v | _ => .none) s') { s with heap := h', toks := tk' } := by
    intro h' tk' m₂ out' F' N' e2 ho hz
    have F' := fr_known (x := Str.ofString "out_bytes") F' e2
    refine execsG_leaf ?_
    k_steps
    refine call_bytes_ba (b := out') ?_ ?_ fun t' k => ?_
    · exact N'.get (.head _)
    · rw [sizeLine_eq]; omega
    exact hQ out' t' h' _ F'.keep ho hz
  refine execsG_cons (ifG ?_)
  k_steps
  · rename_i hpos
    (with_reducible rename Fr _ _ _ _ => F3)
    (with_reducible rename News _ _ _ _ => N3)
    refine execsG_cons (whileG ?_)
    refine codeG_whileLoop (fun n s' => ∃ (h' : Heap) (tk' : Nat) (m : Str → Option Value) (i : Nat) (out : Array UInt8) (ti : Tok), s' = { s with heap := h', toks := tk' } ∧ n = b.size - i ∧ Fr s.heap L h' m ∧ News s.heap L h' [(B, baObj out)] ∧ m (Str.ofString "in_bytes_mv") = some (.bytes b t) ∧
      m (Str.ofString "out_bytes") = some (.ref B) ∧ m (Str.ofString "idx") = some (.int (i : Int) ti) ∧ DecInv (KBw.bInts b) i (KBw.bInts out)) ?_ b.size ⟨_, _, _, 0, #[], _, rfl, rfl, F3, N3, rfl, rfl, rfl, decInv_zero (by rw [hlen]; omega)⟩
    clear F3 N3
    rintro n s' ⟨h', tk', m, i, out, ti, rfl, rfl, F', N', e1, e2, e3, hD⟩
    k_steps
    refine dec_turn (c := 0) X T hsz hnz F' N' e1 e2 e3 hD ?_ ?_
    · intro h2 tk2 m₂ i' out' ti' hi' F2 N2 a1 a2 a3 hD'
      have := hD'.lt
      exact ⟨b.size - i', by omega, h2, tk2, m₂, i', out', ti', rfl, rfl, F2, N2, a1, a2, a3, hD'⟩
    · intro h2 tk2 m₂ out' F2 N2 a2 ho hz
      refine execsG_nil ?_
      exact fin h2 tk2 m₂ out' F2 N2 a2 ho hz
  · rename_i hpos
    (with_reducible rename Fr _ _ _ _ => F3)
    (with_reducible rename News _ _ _ _ => N3)
    refine execsG_nil ?_
    refine fin _ _ _ #[] F3 N3 rfl ?_ (by simp)
    have : KBw.bInts b = [] := List.eq_nil_of_length_eq_zero (by omega)
    rw [this]; rfl
end Mine

end

section
open PySem PySem.W PyProof.Rows PySem.Calls
open PySem.Sem (wp)
set_option maxRecDepth 100000
set_option maxHeartbeats 4000000
set_option linter.unusedVariables false
namespace Mine
/-- a plain list object -/
abbrev lo (vs : List Value) (n : Nat) : Obj := { cls := .type "list", data := .seq vs.toArray n }

theorem isL_of {h : Heap} {l : Addr} {vs : List Value} {n : Nat} (e : h.get? l = some (lo vs n)) : h.IsList l vs.toArray := ⟨_, e, rfl, n, rfl⟩

section
variable {M : Model} {prog : Program} {w : World} {A : Around} {s : Shared} {env : Env} {E : Value → Shared → Prop}
theorem eval_nil {p : Pos} {Q : Value → Shared → Prop} (h : Q (.ref s.heap.objs.size) { s with heap := s.heap.push (lo [] 0) }) : wpAny M A (eval (.List [] p) env) Q E s :=
  List_ (args_nil (wpAny_newObj_type h (by show ([] : List Value).toArray.size ≤ sizeLine; decide)))

def AppGoal (D : Addr) (Q : Flow → Shared → Prop) (v : Value) (s : Shared) : Prop :=
  ∃ vs n, s.heap.get? D = some (lo vs n) ∧ vs.length < 100000 ∧ ∀ h', Heap.SameBut D s.heap h' → h'.get? D = some (lo (vs ++ [v]) (n + 1)) → Q .next { s with heap := h' }
def AppAt (M : Model) (A : Around) (env : Env) (e : PySem.Expr) (Q : Flow → Shared → Prop) (ov : Value) (s : Shared) : Prop :=
  ∃ D vs n, ov = .ref D ∧ s.heap.get? D = some (lo vs n) ∧ wpAny M A (eval e env) (fun v s₂ => AppGoal D Q v s₂) noE s

theorem appendL {o e : PySem.Expr} {ap p3 p4 : Pos} {pl : Sem Bool} {Q : Flow → Shared → Prop}
    (h : wpAny (model prog w) A (eval o env) (fun ov s₁ => AppAt (model prog w) A env e Q ov s₁) noE s)
    (hi : interactive env = false := by rfl) (hs : swapsWith (.Call (.Attribute o "append" ap) [e] [] p3) none p4.line env = pure false := by rfl)
    (ht : starEach [e] env = (false, eval e env) :: starEach [] env := by rfl)
    (heq : eval (.Call (.Attribute o "append" ap) [e] [] p3) env = (do
      let ov ← eval o env
      standAt ap.atName
      let (f, first) ← holding [ov] (getMethod ov "append" pl)
      callWith p3 f first (backTo p3 (starEach [e] env)) []) := by rfl) :
    wpAny (model prog w) A (exec (.Expr (.Call (.Attribute o "append" ap) [e] [] p3) p4) env) Q noE s := by
  refine wpAny_Expr (MethodCall_ (pl := pl) (wpAny_mono h (fun ov s₁ h₁ => ?_) fun _ _ x => x) heq) hi hs
  obtain ⟨D, vs, n, rfl, hD, h₂⟩ := h₁
  refine Calls.getMethod_list_append hD rfl rfl ?_
  refine callWith_builtin (by rw [ht]; rfl) ?_
  rw [ht]
  refine evalArgs_plain (spliced_cons (wpAny_mono h₂ (fun v s₂ h₃ => spliced_nil ?_) fun _ _ x => x))
  obtain ⟨vs', n', hD', hz, hf⟩ := h₃
  refine append_at hD' (fun h' hs' ho => ?_) (by rw [sizeLine_eq]; simp; omega)
  have : vs'.toArray.push v = (vs' ++ [v]).toArray := by simp
  rw [this] at ho
  exact hf h' hs' ho

theorem item_last {value slice : PySem.Expr} {l : Addr} {vs : List Value} {v : Value} {n : Nat} {u : Tok} {Q : Value → Shared → Prop} (hl : s.heap.get? l = some (lo (vs ++ [v]) n)) (h : Q v s)
    (hs : subscripted slice false (.ref l) (.int (-1) u) = operate [.ref l, .int (-1) u] (getItem (.ref l) (.int (-1) u)) := by with_unfolding_all rfl) :
    wpAny (model prog w) A (subscriptTail value slice (.ref l) (.int (-1) u)) Q E s := by
  refine tail_any (isL_of hl).typeIs slot_list_getitem.lookup (wpAny_getItem_list_neg (isL_of hl) (by decide) (by simp; omega) (by decide) (x := v) ?_ h) hs
  simp
  have : (-1 + ((vs.length : Int) + 1)).toNat = vs.length := by omega
  rw [this]
  simp

def SliceGoal (o vl vu : Value) (Q : Value → Shared → Prop) (s : Shared) : Prop :=
  ∃ (l : Addr) (items : List Value) (lo' hi : Option Int), o = .ref l ∧ s.heap.IsList l items.toArray ∧ items.length ≤ 1000000 ∧ IsPart vl lo' ∧ IsPart vu hi ∧
    ∀ h', (∀ b ob, s.heap.get? b = some ob → h'.get? b = some ob) → h'.get? (s.heap.objs.size + 1) = some (lo ((items.drop (lo'.elim 0 (clipAt items.length))).take (hi.elim items.length (clipAt items.length) - lo'.elim 0 (clipAt items.length))) 0) →
      Q (.ref (s.heap.objs.size + 1)) { s with heap := h' }
theorem sliceE {value : PySem.Expr} {lower upper : Option PySem.Expr} {p pos : Pos} {Q : Value → Shared → Prop}
    (h : wpAny (model prog w) A (eval value env) (fun o s₁ => wpAny (model prog w) A (evalPart lower env) (fun vl s₂ => wpAny (model prog w) A (evalPart upper env) (fun vu s₃ => SliceGoal o vl vu Q s₃) noE s₂) noE s₁) noE s)
    (ht : ∀ o r, letTemporaryGo value o r = pure () := by intro _ _; rfl) :
    wpAny (model prog w) A (eval (.Subscript value (.Slice lower upper none p) pos) env) Q noE s := by
  refine wpAny_Subscript_list_slice (wpAny_mono h (fun o s₁ h₁ => wpAny_mono h₁ (fun vl s₂ h₂ => wpAny_mono h₂ (fun vu s₃ h₃ => ?_) fun _ _ x => x) fun _ _ x => x) fun _ _ x => x) ht
  obtain ⟨l, items, lo', hi, rfl, hl, hz, pl, pu, hf⟩ := h₃
  refine ⟨l, items.toArray, lo', hi, rfl, hl, by rw [sizeLine_eq]; simp; omega, pl, pu, ?_⟩
  rw [slicePick_plain]
  refine hf _ (fun b ob e => Heap.get?_push_of_some _ (Heap.get?_push_of_some _ e)) ?_
  have e : (s₃.heap.push { cls := .type "slice", data := .fields #[vl, vu, .none] }).objs.size = s₃.heap.objs.size + 1 := Heap.size_push ..
  have g := Heap.get?_push_size (s₃.heap.push { cls := .type "slice", data := .fields #[vl, vu, .none] }) (o := lo ((items.toArray.toList.drop (lo'.elim 0 (clipAt items.toArray.size))).take (hi.elim items.toArray.size (clipAt items.toArray.size) - lo'.elim 0 (clipAt items.toArray.size))) 0) rfl
  rw [e] at g
  simpa using g
end

/-- a list of ints among the entries -/
def LIn (ents : List (Addr × Obj)) (a : Addr) (xs : List Int) : Prop := ∃ vs n, (a, lo vs n) ∈ ents ∧ IntsAre vs xs
inductive LLs (ents : List (Addr × Obj)) : List Addr → List (List Int) → Prop
  | nil : LLs ents [] []
  | cons {a : Addr} {as : List Addr} {xs : List Int} {xss : List (List Int)} : LIn ents a xs → LLs ents as xss → LLs ents (a :: as) (xs :: xss)
/-- a list of lists of ints -/
def LLIn (ents : List (Addr × Obj)) (R : Addr) (xss : List (List Int)) : Prop := ∃ as n, (R, lo (as.map Value.ref) n) ∈ ents ∧ LLs ents as xss

theorem LIn.mono {e e' : List (Addr × Obj)} {a : Addr} {xs : List Int} (h : LIn e a xs) (hs : ∀ p ∈ e, p ∈ e') : LIn e' a xs := let ⟨vs, n, h1, h2⟩ := h; ⟨vs, n, hs _ h1, h2⟩
theorem LLs.mono {e e' : List (Addr × Obj)} {as : List Addr} {xss : List (List Int)} (h : LLs e as xss) (hs : ∀ p ∈ e, p ∈ e') : LLs e' as xss := by
  induction h with
  | nil => exact .nil
  | cons h1 _ ih => exact .cons (h1.mono hs) ih
theorem LLIn.mono {e e' : List (Addr × Obj)} {R : Addr} {xss : List (List Int)} (h : LLIn e R xss) (hs : ∀ p ∈ e, p ∈ e') : LLIn e' R xss := let ⟨as, n, h1, h2⟩ := h; ⟨as, n, hs _ h1, h2.mono hs⟩
theorem LLs.length {e : List (Addr × Obj)} {as : List Addr} {xss : List (List Int)} (h : LLs e as xss) : as.length = xss.length := by
  induction h with
  | nil => rfl
  | cons _ _ ih => simp [ih]
theorem LLs.append {e : List (Addr × Obj)} {as bs : List Addr} {xss yss : List (List Int)} (h : LLs e as xss) (h' : LLs e bs yss) : LLs e (as ++ bs) (xss ++ yss) := by
  induction h with
  | nil => exact h'
  | cons h1 _ ih => exact .cons h1 ih
theorem LLs.take {e : List (Addr × Obj)} {as : List Addr} {xss : List (List Int)} (h : LLs e as xss) : ∀ k, LLs e (as.take k) (xss.take k) := by
  induction h with
  | nil => intro k; simp; exact .nil
  | cons h1 _ ih =>
    intro k
    cases k with
    | zero => exact .nil
    | succ k => exact .cons h1 (ih k)
theorem LLs.drop {e : List (Addr × Obj)} {as : List Addr} {xss : List (List Int)} (h : LLs e as xss) : ∀ k, LLs e (as.drop k) (xss.drop k) := by
  induction h with
  | nil => intro k; simp; exact .nil
  | cons h1 h2 ih =>
    intro k
    cases k with
    | zero => exact .cons h1 h2
    | succ k => exact ih k
theorem LLs.get {e : List (Addr × Obj)} {as : List Addr} {xss : List (List Int)} (h : LLs e as xss) : ∀ {i : Nat} {a : Addr}, as[i]? = some a → ∃ xs, xss[i]? = some xs ∧ LIn e a xs := by
  induction h with
  | nil => intro i a e; simp at e
  | cons h1 _ ih =>
    intro i a e
    cases i with
    | zero => simp at e; subst e; exact ⟨_, rfl, h1⟩
    | succ i => simpa using ih (by simpa using e)

theorem intsAre_snoc {vs : List Value} {ns : List Int} {n : Int} {t : Tok} (h : IntsAre vs ns) : IntsAre (vs ++ [.int n t]) (ns ++ [n]) := by
  induction h with
  | nil => exact .cons n t .nil
  | cons m u _ ih => exact .cons m u ih
theorem intsAre_append {vs ws : List Value} {ns ms : List Int} (h : IntsAre vs ns) (h' : IntsAre ws ms) : IntsAre (vs ++ ws) (ns ++ ms) := by
  induction h with
  | nil => exact h'
  | cons m u _ ih => exact .cons m u ih
theorem intsAre_take {vs : List Value} {ns : List Int} (h : IntsAre vs ns) : ∀ k, IntsAre (vs.take k) (ns.take k) := by
  induction h with
  | nil => intro k; simp; exact .nil
  | cons m u _ ih =>
    intro k
    cases k with
    | zero => exact .nil
    | succ k => exact .cons m u (ih k)
theorem intsAre_drop {vs : List Value} {ns : List Int} (h : IntsAre vs ns) : ∀ k, IntsAre (vs.drop k) (ns.drop k) := by
  induction h with
  | nil => intro k; simp; exact .nil
  | cons m u h2 ih =>
    intro k
    cases k with
    | zero => exact .cons m u h2
    | succ k => exact ih k
/-- new entries of a callee, to a ledger -/
theorem news_of_ents {b0 h h' : Heap} {L : Addr} {m : Str → Option Value} {ents : List (Addr × Obj)} (F : Fr b0 L h m) (he : ∀ p ∈ ents, h'.get? p.1 = some p.2 ∧ h.get? p.1 = none) : News b0 L h' ents := by
  intro p hp
  obtain ⟨e1, e2⟩ := he p hp
  refine ⟨e1, ?_, ?_⟩
  · rintro rfl
    obtain ⟨oL, _, _, hL, _⟩ := F.ns
    rw [e2] at hL; cases hL
  · cases hq : b0.get? p.1 with
    | none => rfl
    | some o => rw [F.keep _ _ hq] at e2; cases e2
theorem news_append {b0 h : Heap} {L : Addr} {xs ys : List (Addr × Obj)} (N : News b0 L h xs) (N' : News b0 L h ys) : News b0 L h (xs ++ ys) := fun p hp => (List.mem_append.mp hp).elim (N p) (N' p)
end Mine

end

section
namespace Mine
def rowsStep (st : List (List Int) × List Int) (o : Int) : List (List Int) × List Int := if o = 0 then (st.1 ++ [st.2], []) else (st.1, st.2 ++ [o])
def rowsSt (l : List Int) : List (List Int) × List Int := l.foldl rowsStep ([], [])
def rowsOf (l : List Int) : List (List Int) := (rowsSt l).1
theorem rowsSt_snoc (l : List Int) (o : Int) : rowsSt (l ++ [o]) = rowsStep (rowsSt l) o := by simp [rowsSt]

def recvStep (st : List (List Int) × RS) (o : Int) : List (List Int) × RS := if o = 0 then (st.1 ++ [rfin st.2], RS.init) else (st.1, rstep st.2 o)
def recvSt (l : List Int) : List (List Int) × RS := l.foldl recvStep ([], RS.init)
def recvOf (l : List Int) : List (List Int) := (recvSt l).1
theorem recvSt_snoc (l : List Int) (o : Int) : recvSt (l ++ [o]) = recvStep (recvSt l) o := by simp [recvSt]
theorem take_snoc {l : List Int} {i : Nat} {o : Int} (h : l[i]? = some o) : l.take (i + 1) = l.take i ++ [o] := by rw [List.take_add_one, h]; rfl
end Mine

end

section
open PySem PySem.W PyProof.Rows PySem.Calls
open PySem.Sem (wp)
set_option maxRecDepth 100000
set_option maxHeartbeats 4000000
set_option linter.unusedVariables false
namespace Mine
def rowsFor : List Stmt := forBody (nth (fnBody 5) 1)
abbrev rowsEnv (L : Addr) : Env := envOf (Str.ofString "_law_rows") (fnScope 5) L 48 (Value.ref 47)
theorem rows_turn {w : World} {A : Around} {s : Shared} {base : Heap} {L I R a : Addr} {oI : Obj} {vs : List Value} {n nR : Nat} {as : List Addr} {fro : List (Addr × Obj)} {o : Int} {u : Tok} {m : Str → Option Value} {mean} {mg mb : Str → Option Value} {Q : Flow → Shared → Prop}
   {st : List (List Int) × List Int}
   (X : (hd.heap_39 w.params).In base) (T : Top hd.view_39 (looseW hd.view_39 []) mean mg mb base)
   (F : Fr base L s.heap (fun y => if y = Str.ofString "octet" then some (.int o u) else m y)) (N : News base L s.heap ((I, oI) :: (a, lo vs n) :: (R, lo ((as ++ [a]).map Value.ref) nR) :: fro))
   (e1 : m (Str.ofString "rows") = some (.ref R)) (hL : LLs fro as st.1) (hV : IntsAre vs st.2) (hz1 : as.length ≤ 10000) (hz2 : vs.length ≤ 10000)
   (haR : a ≠ R) (haI : a ≠ I) (hRI : R ≠ I) (hfa : ∀ p ∈ fro, p.1 ≠ a) (hfR : ∀ p ∈ fro, p.1 ≠ R)
   (hQ : ∀ h' tk' m₂ a' vs' n' nR' as' fro', Fr base L h' m₂ → News base L h' ((I, oI) :: (a', lo vs' n') :: (R, lo ((as' ++ [a']).map Value.ref) nR') :: fro') → m₂ (Str.ofString "rows") = some (.ref R) →
     LLs fro' as' (rowsStep st o).1 → IntsAre vs' (rowsStep st o).2 → as'.length ≤ as.length + 1 → vs'.length ≤ vs.length + 1 → a' ≠ R → a' ≠ I → (∀ p ∈ fro', p.1 ≠ a') → (∀ p ∈ fro', p.1 ≠ R) → (∀ p ∈ fro', p ∈ fro ∨ p.1 = a) → Q .next { s with heap := h', toks := tk' }) :
   wpG (model PySem.Challenge.rw_nc0008_01.row.prog w) A (execs rowsFor (rowsEnv L)) Q s := by
  revert X
  k_fill
  intro X
  have F := fr_known (x := Str.ofString "rows") F e1
  refine execsG_cons (ifG ?_)
  k_steps
  · rename_i ho
    subst ho
    (with_reducible rename Fr _ _ _ _ => F1)
    (with_reducible rename News _ _ _ _ => N1)
    refine execsG_leaf (appendL ?_)
    k_steps
    refine ⟨R, _, nR, rfl, N1.get (.tail _ (.tail _ (.head _))), ?_⟩
    refine eval_nil ?_
    obtain ⟨F2, N2, lt2⟩ := led_new F1 N1 (h' := s.heap.push (lo [] 0)) (fun b ob e => Heap.get?_push_of_some _ e) (Heap.get?_push_size _ rfl)
    refine ⟨_, nR, N2.get (.tail _ (.tail _ (.tail _ (.head _)))), by simp; omega, fun h' hs hR' => ?_⟩
    dsimp only at F2 N2 lt2 hs hR' ⊢
    generalize s.heap.objs.size = a' at F2 N2 lt2 hR' ⊢
    have l1 := lt2 _ (.head _)
    have l2 := lt2 _ (.tail _ (.head _))
    have l3 := lt2 _ (.tail _ (.tail _ (.head _)))
    have l4 : ∀ p ∈ fro, p.1 < a' := fun p hp => lt2 p (.tail _ (.tail _ (.tail _ hp)))
    dsimp only at l1 l2 l3
    obtain ⟨F3, N3⟩ := led_upd (pre := [(a', lo [] 0), (I, oI), (a, lo vs n)]) (post := fro) F2 N2 (by simp; exact ⟨Nat.ne_of_gt l3, Ne.symm hRI, haR⟩) hfR hs hR'
    refine execsG_nil (execsG_nil ?_)
    refine hQ h' _ _ a' [] 0 (nR + 1) (as ++ [a]) ((a, lo vs n) :: fro) F3 ?_ rfl ?_ ?_ (by simp) (by simp) (Nat.ne_of_gt l3) (Nat.ne_of_gt l1) ?_ ?_ ?_
    · intro p hp
      refine N3 p ?_
      simp only [List.mem_cons, List.mem_append, List.map_append, List.map_cons, List.map_nil] at hp ⊢
      rcases hp with h | h | h | h | h <;> simp [h]
    · show LLs _ _ (st.1 ++ [st.2])
      refine LLs.append (hL.mono fun p hp => .tail _ hp) (.cons ⟨vs, n, .head _, hV⟩ .nil)
    · exact .nil
    · intro p hp
      rcases List.mem_cons.mp hp with rfl | hp
      · exact Nat.ne_of_lt l2
      · exact Nat.ne_of_lt (l4 p hp)
    · intro p hp
      rcases List.mem_cons.mp hp with rfl | hp
      · exact haR
      · exact hfR p hp
    · intro p hp
      rcases List.mem_cons.mp hp with rfl | hp
      · exact .inr rfl
      · exact .inl hp
  · rename_i ho
    (with_reducible rename Fr _ _ _ _ => F1)
    (with_reducible rename News _ _ _ _ => N1)
    refine execsG_leaf (appendL ?_)
    k_steps
    refine item_last (vs := as.map Value.ref) (v := .ref a) (n := nR) ?_ ?_
    · have := N1.get (.tail _ (.tail _ (.head _)))
      simpa using this
    refine ⟨a, vs, n, rfl, N1.get (.tail _ (.head _)), ?_⟩
    k_steps
    refine ⟨vs, n, N1.get (.tail _ (.head _)), by omega, fun h' hs hA => ?_⟩
    obtain ⟨F3, N3⟩ := led_upd (pre := [(I, oI)]) (post := (R, lo ((as ++ [a]).map Value.ref) nR) :: fro) F1 N1 (by simpa using Ne.symm haI) (by
      intro p hp
      rcases List.mem_cons.mp hp with rfl | hp
      · exact Ne.symm haR
      · exact hfa p hp) hs hA
    refine execsG_nil (execsG_nil ?_)
    have e : rowsStep st o = (st.1, st.2 ++ [o]) := by unfold rowsStep; rw [if_neg ho]
    exact hQ h' _ _ a (vs ++ [Value.int o u]) (n + 1) nR as fro F3 N3 rfl (by rw [e]; exact hL) (by rw [e]; exact intsAre_snoc hV) (by omega) (by simp) haR haI hfa hfR fun p hp => .inl hp
theorem rows_call {w : World} {A : Around} {s : Shared} {sa : Addr} {vs : List Value} {ns : List Int} {Q : Value → Shared → Prop} {mean} {mg mb : Str → Option Value} (X : (hd.heap_39 w.params).In s.heap)
   (T : Top hd.view_39 (looseW hd.view_39 []) mean mg mb s.heap) (hroom : A.depth < recursionLimit) (hh : A.handled = none)
   (hsa : s.heap.IsList sa vs.toArray) (hi : IntsAre vs ns) (hsz : ns.length ≤ 10000)
   (hQ : ∀ R ents h' tk', (∀ b o, s.heap.get? b = some o → h'.get? b = some o) → (∀ p ∈ ents, h'.get? p.1 = some p.2 ∧ s.heap.get? p.1 = none) → LLIn ents R (rowsOf ns) → Q (.ref R) { s with heap := h', toks := tk' }) :
   wpG (model PySem.Challenge.rw_nc0008_01.row.prog w) A (call (.ref 48) [.ref sa]) Q s := by
  revert X
  k_fill
  intro X
  refine wpG_call ?_
  refine' codeG_call_def hroom X ?k6 T.nolimit ?k7 ?k9 ?kB ?_ ?c2 ?c3 ?c4 ?c5
  case k6 => k_is
  case k7 => k_is
  case k9 => exact BindsTo.of_eq rfl
  case kB => exact locs rfl
  case c2 => exact rfl
  case c3 => exact rfl
  case c4 => exact rfl
  case c5 => decide
  intro h₁ F
  have N : News s.heap s.heap.objs.size h₁ [] := News.nil
  generalize s.toks + _ = tk0
  generalize s.heap.objs.size = L at F N ⊢
  refine execsG_leaf ?_
  k_steps
  dsimp only
  refine execsG_cons (forG ?_)
  k_steps
  (with_reducible rename Fr _ _ _ _ => F3)
  (with_reducible rename News _ _ _ _ => N3)
  rename_i a _ _ R _ hlt _
  have hls := hsa.at fun o e => F3.keep sa o e
  refine wpAny_pyIter_list hls ?_
  have hsaL : sa < s.heap.objs.size := by obtain ⟨o, ho, _⟩ := id hsa; exact Heap.lt_size ho
  dsimp only at F3 N3 ⊢
  have hne : sa ≠ Array.size _ := Nat.ne_of_lt (Nat.lt_trans (Nat.lt_of_lt_of_le hsaL F3.above) F3.ns.lt)
  have N4 : News s.heap L _ [(a, lo [] 0), (R, lo [Value.ref a] 0)] := fun p hp => by
    rcases List.mem_cons.mp hp with rfl | hp
    · exact N3 _ (.tail _ (.head _))
    · rw [List.mem_singleton.mp hp]; exact N3 _ (.head _)
  have hlen : vs.toArray.size = ns.length := by simp [hi.length]
  have W := Walks.list (prog := PySem.Challenge.rw_nc0008_01.row.prog) (w := w) (A := A.deeper (rowsEnv L)) (by exact hh) _ sa hne vs.toArray
  rw [hlen] at W
  refine' forLedG (h₀ := s.heap) (news := [(a, lo [] 0), (R, lo [Value.ref a] 0)]) W rfl rfl ?hLf ?hI ?hnw ?hst ?hIs ?hIst (F3.push _) ?hN
    (fun i m news => ∃ (a : Addr) (ws : List Value) (n nR : Nat) (as : List Addr) (fro : List (Addr × Obj)), news = (a, lo ws n) :: (R, lo ((as ++ [a]).map Value.ref) nR) :: fro ∧ m (Str.ofString "rows") = some (.ref R) ∧
      LLs fro as (rowsSt (ns.take i)).1 ∧ IntsAre ws (rowsSt (ns.take i)).2 ∧ as.length ≤ i ∧ ws.length ≤ i ∧ a ≠ R ∧ (∀ p ∈ fro, p.1 ≠ a) ∧ (∀ p ∈ fro, p.1 ≠ R)) ?h0 ?step ?hR
  case hLf =>
    intro hm
    rcases List.mem_cons.mp hm with e | hm
    · exact absurd F3.ns.lt (e ▸ Nat.lt_irrefl _)
    · exact absurd (Nat.lt_of_lt_of_le hsaL F3.above) ((List.mem_singleton.mp hm) ▸ Nat.lt_irrefl _)
  case hI => exact next_is_new F3
  case hnw => exact fun p hp e => absurd (Heap.lt_size (N4 p hp).1) (e ▸ Nat.lt_irrefl _)
  case hst => exact ⟨⟨_, Heap.get?_push_size _ rfl, rfl, rfl⟩, hls.at fun o e => Heap.get?_push_of_some _ e⟩
  case hIs => exact ⟨_, Heap.get?_push_size _ rfl⟩
  case hIst => exact fun i h st => ⟨_, st.1.choose_spec.1⟩
  case hN => exact fun p hp => ⟨Heap.get?_push_of_some _ (N4 p hp).1, (N4 p hp).2⟩
  case h0 => exact ⟨a, [], 0, 0, [], [], rfl, rfl, .nil, .nil, by simp, by simp, Nat.ne_of_lt hlt, fun _ hp => (nomatch hp), fun _ hp => (nomatch hp)⟩
  case step =>
    rintro i v m₁ news₁ h tk oI hlt' hv st ⟨a, ws, n, nR, as, fro, rfl, e1, hL, hV, hz1, hz2, haR, hfa, hfR⟩ hoff F N
    obtain ⟨t, hx⟩ := hi.get i ns[i] (by simp [hlt'])
    have hv' : v = .int ns[i] t := by
      have hP' : vs[i]? = some v := by simpa using hv
      rw [hx] at hP'; exact (Option.some.inj hP').symm
    subst hv'
    have hRI : R ≠ _ := hoff _ (.tail _ (.head _))
    refine rows_turn X T F N e1 hL hV (by omega) (by omega) haR (hoff _ (.head _)) (hoff _ (.tail _ (.head _))) hfa hfR ?_
    intro h' tk' m₂ a' ws' n' nR' as' fro' F' N' a1 a2 a3 a4 a5 a6 a7 a8 a9 a10
    have et : rowsSt (ns.take (i + 1)) = rowsStep (rowsSt (ns.take i)) ns[i] := by rw [take_snoc (by simp [hlt'] : ns[i]? = some ns[i]), rowsSt_snoc]
    refine ⟨h', tk', m₂, _, rfl, F', N', ?_, ?_, a', ws', n', nR', as', fro', rfl, a1, by rw [et]; exact a2, by rw [et]; exact a3, by omega, by omega, a6, a8, a9⟩
    · intro p hp
      rcases List.mem_cons.mp hp with rfl | hp
      · exact a7
      · rcases List.mem_cons.mp hp with rfl | hp
        · exact hRI
        · rcases a10 p hp with hq | hq
          · exact hoff _ (.tail _ (.tail _ hq))
          · rw [hq]; exact hoff _ (.head _)
    · intro b hb hbI o e
      rcases List.mem_cons.mp hb with hb | hb
      · exact absurd hb hbI
      · rw [List.mem_singleton.mp hb] at e ⊢
        obtain ⟨o', ho', _⟩ := id hsa
        have h1 := F.keep sa o' ho'
        rw [h1] at e
        cases e
        exact F'.keep sa _ ho'
  case hR =>
    rintro h tk m₁ news₁ F N hoff ⟨a, ws, n, nR, as, fro, rfl, e1, hL, hV, hz1, hz2, haR, hfa, hfR⟩
    rw [List.take_length] at hL
    clear F3 N3
    dsimp only
    have F := fr_known (x := Str.ofString "rows") F e1
    refine execsG_leaf (wpAny_Return_some (sliceE ?_))
    k_steps
    refine ⟨R, _, none, some (-1), rfl, isL_of (N.get (.tail _ (.head _))), by simp; omega, .none, .int _ _, fun h' hk hnew => ?_⟩
    dsimp only at hk hnew ⊢
    obtain ⟨F', N'⟩ := led_ext F N hk
    have hold : s.heap.get? (h.objs.size + 1) = none := by
      cases hq : s.heap.get? (h.objs.size + 1) with
      | none => rfl
      | some q =>
        have := Heap.lt_size (F.keep _ _ hq)
        exact absurd this (Nat.not_lt.mpr (Nat.le_succ _))
    refine hQ (h.objs.size + 1) ((h.objs.size + 1, lo (as.map Value.ref) 0) :: fro) h' _ F'.keep ?_ ⟨as, 0, .head _, hL.mono fun p hp => .tail _ hp⟩
    intro p hp
    rcases List.mem_cons.mp hp with rfl | hp
    · refine ⟨?_, hold⟩
      have e : clipAt ((as ++ [a]).map Value.ref).length (-1) = as.length := by
        have := clipAt_neg ((as ++ [a]).map Value.ref).length 1 (by decide)
        simpa using this
      rw [hnew]
      simp only [Option.elim, e, List.drop_zero, Nat.sub_zero]
      simp
    · have := N' p (.tail _ (.tail _ hp))
      exact ⟨this.1, this.2.2⟩
end Mine

end

section
open PySem PySem.W PyProof.Rows PySem.Calls
open PySem.Sem (wp)
set_option maxRecDepth 100000
set_option maxHeartbeats 4000000
set_option linter.unusedVariables false
namespace Mine
section
variable {prog : Program} {w : World} {A : Around} {s : Shared} {name : Str} {scope : PySem.Scope} {L fa : Addr} {cd : Value} {base : Heap} {m : Str → Option Value} {news : List (Addr × Obj)} {Q : Flow → Shared → Prop}
theorem nilStmt {x : Str} {p1 p2 p3 : Pos} {rest : List Stmt} (F : Fr base L s.heap m) (N : News base L s.heap news)
    (h : ∀ a h' tk', Fr base L h' (fun y => if y = x then some (.ref a) else m y) → News base L h' ((a, lo [] 0) :: news) → (∀ p ∈ news, p.1 < a) → wpG (model prog w) A (execs rest (envOf name scope L fa cd)) Q { s with heap := h', toks := tk' })
    (hk : scope.kind = .function := by rfl) (hl : (envOf name scope L fa cd).kindOf x = some .local := by rfl)
    (hs : swapsWith (.List [] p2) (some (.Name x p1)) p3.line (envOf name scope L fa cd) = pure false := by rfl) :
    wpG (model prog w) A (execs (.Assign [.Name x p1] (.List [] p2) p3 :: rest) (envOf name scope L fa cd)) Q s := by
  refine execsG_leaf (wpAny_Assign_Name (eval_nil ?_) hs)
  obtain ⟨F2, N2, lt2⟩ := led_new F N (h' := s.heap.push (lo [] 0)) (fun b ob e => Heap.get?_push_of_some _ e) (Heap.get?_push_size _ rfl)
  exact stN F2 N2 (fun h' F' N' => h _ h' _ F' N' lt2) hk hl
end
def recvFor : List Stmt := forBody (nth (fnBody 6) 4)
abbrev recvEnv (L : Addr) : Env := envOf (Str.ofString "_law_received") (fnScope 6) L 55 (Value.ref 54)
theorem recv_turn {w : World} {A : Around} {s : Shared} {base : Heap} {L I R a : Addr} {oI : Obj} {vs : List Value} {n nR : Nat} {as : List Addr} {fro : List (Addr × Obj)} {o : Int} {u tl tw : Tok} {m : Str → Option Value} {mean} {mg mb : Str → Option Value} {Q : Flow → Shared → Prop}
   {st : List (List Int) × RS}
   (X : (hd.heap_39 w.params).In base) (T : Top hd.view_39 (looseW hd.view_39 []) mean mg mb base)
   (F : Fr base L s.heap (fun y => if y = Str.ofString "octet" then some (.int o u) else m y)) (N : News base L s.heap ((I, oI) :: (a, lo vs n) :: (R, lo (as.map Value.ref) nR) :: fro))
   (e1 : m (Str.ofString "texts") = some (.ref R)) (e2 : m (Str.ofString "text") = some (.ref a)) (e3 : m (Str.ofString "last") = some (.int st.2.last tl)) (e4 : m (Str.ofString "wanted") = some (.int st.2.wanted tw))
   (hL : LLs fro as st.1) (hV : IntsAre vs st.2.text) (hz1 : as.length ≤ 10000) (hz2 : vs.length ≤ 30000)
   (haR : a ≠ R) (haI : a ≠ I) (hRI : R ≠ I) (hfa : ∀ p ∈ fro, p.1 ≠ a) (hfR : ∀ p ∈ fro, p.1 ≠ R) (hfI : ∀ p ∈ fro, p.1 ≠ I)
   (hQ : ∀ h' tk' m₂ a' vs' n' nR' as' fro' tl' tw', Fr base L h' m₂ → News base L h' ((I, oI) :: (a', lo vs' n') :: (R, lo (as'.map Value.ref) nR') :: fro') → m₂ (Str.ofString "texts") = some (.ref R) →
     m₂ (Str.ofString "text") = some (.ref a') → m₂ (Str.ofString "last") = some (.int (recvStep st o).2.last tl') → m₂ (Str.ofString "wanted") = some (.int (recvStep st o).2.wanted tw') →
     LLs fro' as' (recvStep st o).1 → IntsAre vs' (recvStep st o).2.text → as'.length ≤ as.length + 1 → vs'.length ≤ vs.length + 2 → a' ≠ R → a' ≠ I → (∀ p ∈ fro', p.1 ≠ a') → (∀ p ∈ fro', p.1 ≠ R) → (∀ p ∈ fro', p.1 ≠ I) → Q .next { s with heap := h', toks := tk' }) :
   wpG (model PySem.Challenge.rw_nc0008_01.row.prog w) A (execs recvFor (recvEnv L)) Q s := by
  revert X
  k_fill
  intro X
  have F := fr_known (x := Str.ofString "texts") (fr_known (x := Str.ofString "text") (fr_known (x := Str.ofString "last") (fr_known (x := Str.ofString "wanted") F e4) e3) e2) e1
  refine execsG_cons (ifG ?_)
  k_steps
  · rename_i ho
    subst ho
    (with_reducible rename Fr _ _ _ _ => F1)
    (with_reducible rename News _ _ _ _ => N1)
    -- behind the append
    have tail : ∀ (h : Heap) (tk : Nat) (m : Str → Option Value) (c : Addr) (fro' : List (Addr × Obj)), Fr base L h m → m (Str.ofString "texts") = some (.ref R) → News base L h ((I, oI) :: (R, lo ((as ++ [c]).map Value.ref) (nR + 1)) :: fro') →
        LLs fro' (as ++ [c]) (st.1 ++ [rfin st.2]) → (∀ p ∈ fro', p.1 ≠ R) → (∀ p ∈ fro', p.1 ≠ I) →
        wpG (model PySem.Challenge.rw_nc0008_01.row.prog w) A (execs ((ifBody (nth recvFor 0)).drop 1) (recvEnv L)) (fun f s' => match f with | .next => wpG (model PySem.Challenge.rw_nc0008_01.row.prog w) A (execs [] (recvEnv L)) Q s' | f => Q f s') { s with heap := h, toks := tk } := by
      clear F1 N1
      intro h tk m c fro' F e1 N hL' hR' hI'
      have F := fr_known (x := Str.ofString "texts") F e1
      refine nilStmt F N fun a' h2 tk2 F2 N2 lt2 => ?_
      clear F N
      refine execsG_leaf ?_
      k_steps
      refine execsG_leaf ?_
      k_steps
      (with_reducible rename Fr _ _ _ _ => F3)
      (with_reducible rename News _ _ _ _ => N3)
      repeat refine execsG_nil ?_
      refine hQ _ _ _ a' [] 0 (nR + 1) (as ++ [c]) fro' _ _ F3 ?_ rfl rfl rfl rfl hL' .nil (by simp) (by simp) ?_ ?_ ?_ hR' hI'
      · intro p hp
        refine N3 p ?_
        simp only [List.mem_cons] at hp ⊢
        rcases hp with h | h | h | h <;> simp [h]
      · exact Nat.ne_of_gt (lt2 _ (.tail _ (.head _)))
      · exact Nat.ne_of_gt (lt2 _ (.head _))
      · exact fun p hp => Nat.ne_of_lt (lt2 _ (.tail _ (.tail _ hp)))
    refine execsG_leaf (appendL ?_)
    k_steps
    refine ⟨R, _, nR, rfl, N1.get (.tail _ (.tail _ (.head _))), ?_⟩
    k_steps
    · rename_i hw l' h1 F2 N2 l1 h2 F3 N3
      dsimp only at F3 N3 ⊢
      have lt := fun p hp => Heap.lt_size (N2 p hp).1
      generalize h1.objs.size = c at N3 lt ⊢
      have lc1 := lt _ (.tail _ (.head _))
      have lc3 := lt _ (.tail _ (.tail _ (.tail _ (.head _))))
      have l2 := l1.2.2.1
      dsimp only at lc1 lc3
      refine ⟨_, nR, N3.get (.tail _ (.tail _ (.tail _ (.tail _ (.head _))))), by simp; omega, fun h' hs hR' => ?_⟩
      obtain ⟨F4, N4⟩ := led_upd (pre := [(c, lo (vs ++ [Value.int st.2.last tl]) 0), (l', W.listOf #[Value.int st.2.last tl] 0), (I, oI), (a, lo vs n)]) (post := fro) F3 N3 (by
        simp
        exact ⟨Nat.ne_of_gt lc3, Nat.ne_of_gt l2, Ne.symm hRI, haR⟩) hfR hs hR'
      dsimp only
      have er : rfin st.2 = st.2.text ++ [st.2.last] := by unfold rfin; rw [if_pos hw]
      refine tail h' _ _ c ((c, lo (vs ++ [Value.int st.2.last tl]) 0) :: fro) F4 rfl ?_ ?_ ?_ ?_
      · intro p hp
        refine N4 p ?_
        simp only [List.mem_cons, List.mem_append, List.map_append, List.map_cons, List.map_nil] at hp ⊢
        rcases hp with h | h | h | h <;> simp [h]
      · rw [er]
        exact LLs.append (hL.mono fun p hp => .tail _ hp) (.cons ⟨_, 0, .head _, intsAre_snoc hV⟩ .nil)
      · intro p hp
        rcases List.mem_cons.mp hp with rfl | hp
        · exact Nat.ne_of_gt lc3
        · exact hfR p hp
      · intro p hp
        rcases List.mem_cons.mp hp with rfl | hp
        · exact Nat.ne_of_gt lc1
        · exact hfI p hp
    · rename_i hw
      refine ⟨_, nR, N1.get (.tail _ (.tail _ (.head _))), by simp; omega, fun h' hs hR' => ?_⟩
      obtain ⟨F4, N4⟩ := led_upd (pre := [(I, oI), (a, lo vs n)]) (post := fro) F1 N1 (by
        simp
        exact ⟨Ne.symm hRI, haR⟩) hfR hs hR'
      dsimp only
      have er : rfin st.2 = st.2.text := by unfold rfin; rw [if_neg (by omega)]
      refine tail h' _ _ a ((a, lo vs n) :: fro) F4 rfl ?_ ?_ ?_ ?_
      · intro p hp
        refine N4 p ?_
        simp only [List.mem_cons, List.mem_append, List.map_append, List.map_cons, List.map_nil] at hp ⊢
        rcases hp with h | h | h | h <;> simp [h]
      · rw [er]
        exact LLs.append (hL.mono fun p hp => .tail _ hp) (.cons ⟨_, n, .head _, hV⟩ .nil)
      · intro p hp
        rcases List.mem_cons.mp hp with rfl | hp
        · exact haR
        · exact hfR p hp
      · intro p hp
        rcases List.mem_cons.mp hp with rfl | hp
        · exact haI
        · exact hfI p hp
  · rename_i ho
    have e0 : recvStep st o = (st.1, rstep st.2 o) := by unfold recvStep; rw [if_neg ho]
    rw [e0] at hQ
    refine execsG_cons (ifG ?_)
    k_steps
    · rename_i hw
      (with_reducible rename Fr _ _ _ _ => F1)
      (with_reducible rename News _ _ _ _ => N1)
      refine execsG_leaf (appendL ?_)
      k_steps
      refine ⟨a, vs, n, rfl, N1.get (.tail _ (.head _)), ?_⟩
      k_steps
      refine ⟨vs, n, N1.get (.tail _ (.head _)), by omega, fun h' hs hA => ?_⟩
      obtain ⟨F3, N3⟩ := led_upd (pre := [(I, oI)]) (post := (R, lo (as.map Value.ref) nR) :: fro) F1 N1 (by simpa using Ne.symm haI) (by
        intro p hp
        rcases List.mem_cons.mp hp with rfl | hp
        · exact Ne.symm haR
        · exact hfa p hp) hs hA
      (try clear F1)
      (try clear N1)
      dsimp only at F3 N3 ⊢
      refine execsG_leaf ?_
      k_steps
      (with_reducible rename Fr _ _ _ _ => F4)
      (with_reducible rename News _ _ _ _ => N4)
      repeat refine execsG_nil ?_
      have e2 : rstep st.2 o = ⟨st.2.text ++ [o], st.2.last, st.2.wanted - 1⟩ := by unfold rstep; rw [if_pos hw]
      rw [e2] at hQ
      exact hQ _ _ _ a (vs ++ [Value.int o u]) (n + 1) nR as fro _ _ F4 N4 rfl rfl rfl rfl hL (intsAre_snoc hV) (by omega) (by simp) haR haI hfa hfR hfI
    · rename_i hw
      have e2 : rstep st.2 o = ⟨st.2.text ++ sepOf st.2.last, o, o - 1⟩ := by unfold rstep; rw [if_neg (by omega)]
      rw [e2] at hQ
      have tail : ∀ (h : Heap) (tk : Nat) (m : Str → Option Value) (ws : List Value) (n' : Nat), Fr base L h m → m (Str.ofString "texts") = some (.ref R) → m (Str.ofString "text") = some (.ref a) → m (Str.ofString "octet") = some (.int o u) → News base L h ((I, oI) :: (a, lo ws n') :: (R, lo (as.map Value.ref) nR) :: fro) →
          IntsAre ws (st.2.text ++ sepOf st.2.last) → ws.length ≤ vs.length + 2 →
          wpG (model PySem.Challenge.rw_nc0008_01.row.prog w) A (execs ((ifElse (nth (ifElse (nth recvFor 0)) 0)).drop 1) (recvEnv L)) (fun f s' => match f with | .next => wpG (model PySem.Challenge.rw_nc0008_01.row.prog w) A (execs [] (recvEnv L)) (fun f s' => match f with | .next => wpG (model PySem.Challenge.rw_nc0008_01.row.prog w) A (execs [] (recvEnv L)) Q s' | f => Q f s') s' | f => (match f with | .next => wpG (model PySem.Challenge.rw_nc0008_01.row.prog w) A (execs [] (recvEnv L)) Q s' | f => Q f s')) { s with heap := h, toks := tk } := by
        intro h tk m ws n' F e1 e2 e3 N hV' hz'
        have F := fr_known (x := Str.ofString "octet") (fr_known (x := Str.ofString "texts") (fr_known (x := Str.ofString "text") F e2) e1) e3
        refine execsG_leaf ?_
        k_steps
        refine execsG_leaf ?_
        k_steps
        (with_reducible rename Fr _ _ _ _ => F3)
        (with_reducible rename News _ _ _ _ => N3)
        repeat refine execsG_nil ?_
        exact hQ _ _ _ a ws n' nR as fro _ _ F3 N3 rfl rfl rfl rfl hL hV' (by omega) hz' haR haI hfa hfR hfI
      refine execsG_cons (ifG ?_)
      k_steps
      · rename_i hl1 hl2
        (with_reducible rename Fr _ _ _ _ => F1)
        (with_reducible rename News _ _ _ _ => N1)
        have es : sepOf st.2.last = [0] := by unfold sepOf; rw [if_pos ⟨hl1, hl2⟩]
        refine execsG_leaf (appendL ?_)
        k_steps
        refine ⟨a, vs, n, rfl, N1.get (.tail _ (.head _)), ?_⟩
        k_steps
        refine ⟨vs, n, N1.get (.tail _ (.head _)), by omega, fun h' hs hA => ?_⟩
        obtain ⟨F3, N3⟩ := led_upd (pre := [(I, oI)]) (post := (R, lo (as.map Value.ref) nR) :: fro) F1 N1 (by simpa using Ne.symm haI) (by
          intro p hp
          rcases List.mem_cons.mp hp with rfl | hp
          · exact Ne.symm haR
          · exact hfa p hp) hs hA
        refine execsG_nil ?_
        exact tail h' _ _ _ (n + 1) F3 rfl rfl rfl N3 (by rw [es]; exact intsAre_snoc hV) (by simp)
      · rename_i hl1 hl2
        (with_reducible rename Fr _ _ _ _ => F1)
        (with_reducible rename News _ _ _ _ => N1)
        have es : sepOf st.2.last = [] := by unfold sepOf; rw [if_neg (fun h => hl2 h.2)]
        refine execsG_nil ?_
        exact tail _ _ _ vs n F1 rfl rfl rfl N1 (by rw [es, List.append_nil]; exact hV) (by omega)
      · rename_i hl1
        (with_reducible rename Fr _ _ _ _ => F1)
        (with_reducible rename News _ _ _ _ => N1)
        have es : sepOf st.2.last = [] := by unfold sepOf; rw [if_neg (fun h => hl1 h.1)]
        refine execsG_nil ?_
        exact tail _ _ _ vs n F1 rfl rfl rfl N1 (by rw [es, List.append_nil]; exact hV) (by omega)

theorem recv_call {w : World} {A : Around} {s : Shared} {sa : Addr} {vs : List Value} {ns : List Int} {Q : Value → Shared → Prop} {mean} {mg mb : Str → Option Value} (X : (hd.heap_39 w.params).In s.heap)
   (T : Top hd.view_39 (looseW hd.view_39 []) mean mg mb s.heap) (hroom : A.depth < recursionLimit) (hh : A.handled = none)
   (hsa : s.heap.IsList sa vs.toArray) (hi : IntsAre vs ns) (hsz : ns.length ≤ 10000)
   (hQ : ∀ R ents h' tk', (∀ b o, s.heap.get? b = some o → h'.get? b = some o) → (∀ p ∈ ents, h'.get? p.1 = some p.2 ∧ s.heap.get? p.1 = none) → LLIn ents R (recvOf ns) → Q (.ref R) { s with heap := h', toks := tk' }) :
   wpG (model PySem.Challenge.rw_nc0008_01.row.prog w) A (call (.ref 55) [.ref sa]) Q s := by
  revert X
  k_fill
  intro X
  refine wpG_call ?_
  refine' codeG_call_def hroom X ?k6 T.nolimit ?k7 ?k9 ?kB ?_ ?c2 ?c3 ?c4 ?c5
  case k6 => k_is
  case k7 => k_is
  case k9 => exact BindsTo.of_eq rfl
  case kB => exact locs rfl
  case c2 => exact rfl
  case c3 => exact rfl
  case c4 => exact rfl
  case c5 => decide
  intro h₁ F
  have N : News s.heap s.heap.objs.size h₁ [] := News.nil
  generalize s.toks + _ = tk0
  generalize s.heap.objs.size = L at F N ⊢
  refine nilStmt F N fun R h2 tk2 F2 N2 _ => ?_
  clear F N
  refine nilStmt F2 N2 fun a h3 tk3 F3 N3 lt3 => ?_
  clear F2 N2
  have hlt : R < a := lt3 _ (.head _)
  clear lt3
  refine execsG_leaf ?_
  k_steps
  refine execsG_leaf ?_
  k_steps
  dsimp only
  refine execsG_cons (forG ?_)
  k_steps
  (try clear F3)
  (try clear N3)
  (with_reducible rename Fr _ _ _ _ => F3)
  (with_reducible rename News _ _ _ _ => N3)
  have hls := hsa.at fun o e => F3.keep sa o e
  refine wpAny_pyIter_list hls ?_
  have hsaL : sa < s.heap.objs.size := by obtain ⟨o, ho, _⟩ := id hsa; exact Heap.lt_size ho
  dsimp only at F3 N3 ⊢
  have hne : sa ≠ Array.size _ := Nat.ne_of_lt (Nat.lt_trans (Nat.lt_of_lt_of_le hsaL F3.above) F3.ns.lt)
  have hlen : vs.toArray.size = ns.length := by simp [hi.length]
  have W := Walks.list (prog := PySem.Challenge.rw_nc0008_01.row.prog) (w := w) (A := A.deeper (recvEnv L)) (by exact hh) _ sa hne vs.toArray
  rw [hlen] at W
  refine' forLedG (h₀ := s.heap) W rfl rfl ?hLf ?hI ?hnw ?hst ?hIs ?hIst (F3.push _) ?hN
    (fun i m news => ∃ (a : Addr) (ws : List Value) (n nR : Nat) (as : List Addr) (fro : List (Addr × Obj)) (tl tw : Tok), news = (a, lo ws n) :: (R, lo (as.map Value.ref) nR) :: fro ∧ m (Str.ofString "texts") = some (.ref R) ∧ m (Str.ofString "text") = some (.ref a) ∧
      m (Str.ofString "last") = some (.int (recvSt (ns.take i)).2.last tl) ∧ m (Str.ofString "wanted") = some (.int (recvSt (ns.take i)).2.wanted tw) ∧
      LLs fro as (recvSt (ns.take i)).1 ∧ IntsAre ws (recvSt (ns.take i)).2.text ∧ as.length ≤ i ∧ ws.length ≤ 2 * i ∧ a ≠ R ∧ (∀ p ∈ fro, p.1 ≠ a) ∧ (∀ p ∈ fro, p.1 ≠ R)) ?h0 ?step ?hR
  case hLf =>
    intro hm
    rcases List.mem_cons.mp hm with e | hm
    · exact absurd F3.ns.lt (e ▸ Nat.lt_irrefl _)
    · exact absurd (Nat.lt_of_lt_of_le hsaL F3.above) ((List.mem_singleton.mp hm) ▸ Nat.lt_irrefl _)
  case hI => exact next_is_new F3
  case hnw => exact fun p hp e => absurd (Heap.lt_size (N3 p hp).1) (e ▸ Nat.lt_irrefl _)
  case hst => exact ⟨⟨_, Heap.get?_push_size _ rfl, rfl, rfl⟩, hls.at fun o e => Heap.get?_push_of_some _ e⟩
  case hIs => exact ⟨_, Heap.get?_push_size _ rfl⟩
  case hIst => exact fun i h st => ⟨_, st.1.choose_spec.1⟩
  case hN => exact fun p hp => ⟨Heap.get?_push_of_some _ (N3 p hp).1, (N3 p hp).2⟩
  case h0 => exact ⟨a, [], 0, 0, [], [], _, _, rfl, rfl, rfl, rfl, rfl, .nil, .nil, by simp, by simp, Nat.ne_of_gt hlt, fun _ hp => (nomatch hp), fun _ hp => (nomatch hp)⟩
  case step =>
    rintro i v m₁ news₁ h tk oI hlt' hv st ⟨a, ws, n, nR, as, fro, tl, tw, rfl, e1, e2, e3, e4, hL, hV, hz1, hz2, haR, hfa, hfR⟩ hoff F N
    obtain ⟨t, hx⟩ := hi.get i ns[i] (by simp [hlt'])
    have hv' : v = .int ns[i] t := by
      have hP' : vs[i]? = some v := by simpa using hv
      rw [hx] at hP'; exact (Option.some.inj hP').symm
    subst hv'
    have haI : a ≠ _ := hoff _ (.head _)
    have hRI : R ≠ _ := hoff _ (.tail _ (.head _))
    refine recv_turn X T F N e1 e2 e3 e4 hL hV (by omega) (by omega) haR haI hRI hfa hfR (fun p hp => hoff _ (.tail _ (.tail _ hp))) ?_
    intro h' tk' m₂ a' ws' n' nR' as' fro' tl' tw' F' N' a1 a2 a3 a4 a5 a6 a7 a8 a9 a10 a11 a12 a13
    have et : recvSt (ns.take (i + 1)) = recvStep (recvSt (ns.take i)) ns[i] := by rw [take_snoc (by simp [hlt'] : ns[i]? = some ns[i]), recvSt_snoc]
    refine ⟨h', tk', m₂, _, rfl, F', N', ?_, ?_, a', ws', n', nR', as', fro', tl', tw', rfl, a1, a2, by rw [et]; exact a3, by rw [et]; exact a4, by rw [et]; exact a5, by rw [et]; exact a6, by omega, by omega, a9, a11, a12⟩
    · intro p hp
      rcases List.mem_cons.mp hp with rfl | hp
      · exact a10
      · rcases List.mem_cons.mp hp with rfl | hp
        · exact hRI
        · exact a13 p hp
    · intro b hb hbI o e
      rcases List.mem_cons.mp hb with hb | hb
      · exact absurd hb hbI
      · rw [List.mem_singleton.mp hb] at e ⊢
        obtain ⟨o', ho', _⟩ := id hsa
        have h1 := F.keep sa o' ho'
        rw [h1] at e
        cases e
        exact F'.keep sa _ ho'
  case hR =>
    rintro h tk m₁ news₁ F N hoff ⟨a, ws, n, nR, as, fro, tl, tw, rfl, e1, e2, e3, e4, hL, hV, hz1, hz2, haR, hfa, hfR⟩
    rw [List.take_length] at hL
    clear F3 N3
    dsimp only
    have F := fr_known (x := Str.ofString "texts") F e1
    refine execsG_leaf ?_
    k_steps
    refine hQ R ((R, lo (as.map Value.ref) nR) :: fro) h _ F.keep ?_ ⟨as, nR, .head _, hL.mono fun p hp => .tail _ hp⟩
    intro p hp
    have := N p (.tail _ hp)
    exact ⟨this.1, this.2.2⟩
end Mine

end

section
open PySem PySem.W PyProof.Rows PySem.Calls
open PySem.Sem (wp)
set_option maxRecDepth 100000
set_option maxHeartbeats 4000000
set_option linter.unusedVariables false
namespace Mine
section
variable {prog : Program} {w : World} {A : Around} {E : Value → Shared → Prop} {s : Shared}
def OctAt (b : Array UInt8) (i : Nat) (v : Value) : Prop := ∃ c u, b[i]? = some c ∧ v = .int (c.toNat : Int) u

theorem extend_bytes {R : Result → Shared → Prop} (hh : A.handled = none) (b : Array UInt8) (t : Tok) (S : Addr) (res : Value) (c₀ : Nat) (hS : s.heap.get? S = some { cls := .type "list", data := .seq #[] c₀ })
    (hR : ∀ h' tk acc' c', (∀ b o, b ≠ S → s.heap.get? b = some o → h'.get? b = some o) → h'.get? S = some { cls := .type "list", dict := none, data := .seq acc' c', slots := #[] } →
      ItemsOf (OctAt b) acc' b.size → R (.ok (.ret res)) { s with heap := h', toks := tk }) (hn : b.size ≤ sizeLine) :
    wpAny (model prog w) A.in1 (Builtin.List.listExtendWith (.ref S) (.bytes b t) res)
      (fun fin s' => match fin with | .done f => R (.ok f) s' | .again c' => c'.quiet = true ∧ codeAny (model prog w) A c' R s') (fun e s' => R (.error e) s') s := by
  have hSI : S ≠ s.heap.objs.size := Nat.ne_of_lt (Heap.lt_size hS)
  have hSf : S ∉ [s.heap.objs.size] := fun hm => hSI (List.mem_singleton.mp hm)
  unfold Builtin.List.listExtendWith
  refine wpAny_bind (wpAny_typeOf (T := "bytes") (v := .bytes b t) (typeIs_bytes _ _ _) ?_)
  have h1 : Builtin.List.listSameRef (.ref S) (.bytes b t) = false := rfl
  have h2 : (Value.type "bytes" == Value.type "list") = false := by decide
  have h3 : (Value.type "bytes" == Value.type "tuple") = false := by decide
  simp only [h1, h2, h3, Bool.or_false, Bool.false_eq_true, if_false]
  refine wpAny_bind (KBw.pyIter_bytes ?_)
  refine wpAny_bind (wpAny_holding ?_)
  unfold Builtin.List.listLengthHint
  refine wpAny_bind (wpAny_specialOf (T := "bytes") (v := .bytes b t) (typeIs_bytes _ _ _) FB.slot_bytes_len.lookup ?_)
  wp_delta
  refine wpAny_bind (wpAny_isInstance (T := "bytes") (v := .bytes b t) (b := true) (typeIs_bytes _ _ _) (by rw [isSubtype_type]; kernel_rfl) ?_)
  show wpAny _ _ (typeOf (Value.bytes b t) >>= _) _ _ _
  refine wpAny_bind (wpAny_typeOf (T := "bytes") (v := .bytes b t) (typeIs_bytes _ _ _) ?_)
  refine wpAny_pure ?_
  rw [if_neg (by decide)]
  have W := KBw.walks (prog := prog) (w := w) (A := A.in1) hh s.heap.objs.size b t
  refine wpAny_pure ⟨plainId_quiet F.plain_extend_loop _, codeAny_extend_loopS W.toS hn _ hSf _ b.size 0 _ _ _ rfl (Nat.zero_le _) ⟨_, Heap.get?_push_size _ rfl, rfl, rfl⟩ (Heap.get?_push_of_some _ hS) (ItemsOf.nil _) fun s' acc' c' hm hS' hacc => ?_⟩
  rw [Moved.eq_with hm]
  refine hR s'.heap s'.toks acc' c' (fun b' ob hb e => hm.heap b' ob (fun hmem => ?_) (Heap.get?_push_of_some _ e)) hS' hacc
  rcases List.mem_cons.mp hmem with e' | hmem
  · exact hb e'
  · exact absurd (Heap.lt_size e) (by rw [List.mem_singleton.mp hmem]; exact Nat.lt_irrefl _)

theorem init_bytes {R : Result → Shared → Prop} (hh : A.handled = none) (b : Array UInt8) (t : Tok) (S : Addr) (hS : s.heap.get? S = some { cls := .type "list", data := .seq #[] })
    (hR : ∀ h' tk acc' c', (∀ b o, b ≠ S → s.heap.get? b = some o → h'.get? b = some o) → h'.get? S = some { cls := .type "list", dict := none, data := .seq acc' c', slots := #[] } →
      ItemsOf (OctAt b) acc' b.size → R (.ok (.ret .none)) { s with heap := h', toks := tk }) (hn : b.size ≤ sizeLine) :
    wpAny (model prog w) A.in1 (Builtin.«list.__init__» ⟨[.ref S, .bytes b t], []⟩)
      (fun fin s' => match fin with | .done f => R (.ok f) s' | .again c' => c'.quiet = true ∧ codeAny (model prog w) A c' R s') (fun e s' => R (.error e) s') s := by
  show wpAny _ _ (do let old ← Builtin.List.listItems (.ref S); Builtin.List.listUpdate (.ref S) (fun _ => #[]); letGo old.toList.reverse; Builtin.List.listExtendWith (.ref S) (.bytes b t) .none) _ _ s
  refine wpAny_bind ?_
  unfold Builtin.List.listItems
  refine wpAny_bind (wpAny_seqItems hS rfl (wpAny_pure ?_))
  show wpAny _ _ (updateSeq S (fun _ => #[]) >>= fun _ => letGo (#[] : Array Value).toList.reverse >>= fun _ => Builtin.List.listExtendWith (.ref S) (.bytes b t) .none) _ _ s
  refine wpAny_bind (wpAny_updateSeq hS rfl ?_)
  have hS₂ := Heap.get?_update_self (Obj.mapSeq (fun _ => (#[] : Array Value))) hS rfl
  have oth : ∀ b o, b ≠ S → s.heap.get? b = some o → (s.heap.update S (Obj.mapSeq (fun _ => (#[] : Array Value)))).get? b = some o :=
    fun b o hb e => (Heap.get?_update_other _ _ (Ne.symm hb)).trans e
  refine wpAny_bind (wpAny_letGo ?_)
  refine extend_bytes (hn := hn) hh b t S .none _ hS₂ fun h' tk acc' c' hk hS' hacc => ?_
  exact hR h' tk acc' c' (fun b o hb e => hk b o hb (oth b o hb e)) hS' hacc

theorem ints_of_items {b : Array UInt8} {acc : Array Value} (h : ItemsOf (OctAt b) acc b.size) : ∃ vs, acc = vs.toArray ∧ IntsAre vs (KBw.bInts b) := by
  obtain ⟨hs, hi⟩ := h
  obtain ⟨vs⟩ := acc
  obtain ⟨bs⟩ := b
  refine ⟨vs, rfl, ?_⟩
  simp only [List.size_toArray] at hs
  have key : ∀ (vs : List Value) (bs : List UInt8), vs.length = bs.length → (∀ (j : Nat) v, vs[j]? = some v → ∃ (c : UInt8) (u : Tok), bs[j]? = some c ∧ v = Value.int (c.toNat : Int) u) → IntsAre vs (bs.map fun c => (c.toNat : Int)) := by
    intro vs
    induction vs with
    | nil => intro bs hl _; cases bs with | nil => exact .nil | cons _ _ => simp at hl
    | cons v vs ih =>
      intro bs hl hi
      cases bs with
      | nil => simp at hl
      | cons c bs =>
        obtain ⟨c', u, e1, e2⟩ := hi 0 v rfl
        simp at e1
        subst e1 e2
        exact .cons _ _ (ih bs (by simpa using hl) fun j v hj => by simpa using hi (j + 1) v (by simpa using hj))
  exact key vs bs hs fun j v hj => by simpa [OctAt] using hi j v (by simpa using hj)

/-- list(b): the octets -/
theorem call_list_bytes {Q : Value → Shared → Prop} (hh : A.handled = none) (b : Array UInt8) (t : Tok)
    (hQ : ∀ h' tk vs n, (∀ b o, s.heap.get? b = some o → h'.get? b = some o) → h'.get? s.heap.objs.size = some (lo vs n) → IntsAre vs (KBw.bInts b) → Q (.ref s.heap.objs.size) { s with heap := h', toks := tk }) (hn : b.size ≤ sizeLine) :
    wpAny (model prog w) A (call (.type "list") [.bytes b t]) Q E s := by
  refine callType_codes (Q₁ := fun obj s₁ => obj = .ref s.heap.objs.size ∧ s₁ = { s with heap := s.heap.push { cls := .type "list", data := .seq #[] } }) F.called_list (F.typeCall_list_1 _) F.entry_list_init
    (code_list_new _ ⟨rfl, rfl⟩) fun obj s₁ h₁ => ?_
  obtain ⟨rfl, rfl⟩ := h₁
  have hS : (s.heap.push { cls := .type "list", data := .seq #[] }).get? s.heap.objs.size = some { cls := .type "list", data := .seq #[] } := Heap.get?_push_size _ rfl
  refine ⟨⟨_, hS, rfl⟩, F.args_list_init_2 _ _, init_bytes (A := A.in1) (hn := hn) hh b t _ hS fun h' tk acc' c' hk hS' hacc => ?_⟩
  obtain ⟨vs, rfl, hv⟩ := ints_of_items hacc
  exact ⟨rfl, hQ h' tk vs c' (fun b o e => hk b o (Nat.ne_of_lt (Heap.lt_size e)) (Heap.get?_push_of_some _ e)) hS' hv⟩
theorem call_list_bytes_s {Q : Value → Shared → Prop} (hh : A.handled = none) (b : Array UInt8) (t : Tok)
    (hQ : ∀ h' tk vs n, (∀ b o, s.heap.get? b = some o → h'.get? b = some o) → h'.get? s.heap.objs.size = some (lo vs n) → IntsAre vs (KBw.bInts b) → Q (.ref s.heap.objs.size) { s with heap := h', toks := tk }) (hn : b.size ≤ 100000) :
    wpAny (model prog w) A (call (.type "list") [.bytes b t]) Q E s := call_list_bytes hh b t hQ (by rw [sizeLine_eq]; omega)

theorem list_look_iadd : typeLookup (.type "list") (dunderI "add") = pure (some (.builtin "list.__iadd__")) := F.slot_list_iadd.lookup
theorem list_fillsI : fillsInplaceSlot (.type "list") "add" (Operator.Add == .Add) = pure false := by
  unfold fillsInplaceSlot
  show (typeLookup (.type "list") (dunderI "add") >>= fun fi => pure (fi.isSome && !isSeqSlot fi)) = pure false
  rw [list_look_iadd]
  have : isSeqSlot (some (.builtin "list.__iadd__")) = true := by decide +kernel
  simp [this]
theorem list_seq_iadd : seqSlot? (.type "list") (dunderI "add") = pure (some (.builtin "list.__iadd__")) := PySem.seqSlot_of list_look_iadd (by decide +kernel)

/-- xs += ys -/
theorem inplace_list {l b : Addr} {vs ws : List Value} {n k : Nat} {Q : Value → Shared → Prop} (hl : s.heap.get? l = some (lo vs n)) (hb : s.heap.get? b = some (lo ws k)) (hz : vs.length + ws.length ≤ 1000000)
    (h : ∀ h' n', Heap.SameBut l s.heap h' → h'.get? l = some (lo (vs ++ ws) n') → Q (.ref l) { s with heap := h' }) : wpAny (model prog w) A (inplaceOp .Add (.ref l) (.ref b)) Q E s := by
  have hT : s.TypeIs (.ref l) "list" := ⟨_, hl, rfl⟩
  have hTb : s.TypeIs (.ref b) "list" := ⟨_, hb, rfl⟩
  unfold inplaceOp
  refine wpAny_holding ?_
  refine wpAny_bind (wpAny_typeOf hT ?_)
  refine wpAny_bind (wpAny_of_eq list_fillsI ?_)
  refine bm_if_false rfl ?_
  refine wpAny_bind (PySem.wpAny_binaryOp1_none (nm := "add") hT hTb noFill_list_add ?_)
  refine wpAny_bind (wpAny_of_eq list_seq_iadd ?_)
  refine wpAny_bind (wpAny_rule ?_)
  refine call_meets F.slot_list_iadd hT F.entry_list_iadd (F.args_list_iadd_2 _ _) (AutoSeq1.list___iadd___list_list_0 l vs.toArray n b ws.toArray k ?_ ?_ ?_) ⟨hl, hb, ?_⟩
  · simp [Builtin.List.listTooLong, sizeLine_eq]; omega
  · rw [sizeLine_eq]; simp; omega
  · rw [sizeLine_eq]; simp; omega
  · obtain ⟨n', hd'⟩ := Obj.data_mapSeq (o := lo vs n) rfl (· ++ ws.toArray)
    refine h _ (if ws = [] then n else n + 1) (Heap.SameBut.update ..) ?_
    have g := Heap.get?_update_self (Obj.mapSeq fun x => x ++ ws.toArray) hl rfl
    simpa [Obj.mapSeq] using g

/-- xs[-1] = v -/
theorem setItem_last {l : Addr} {vs : List Value} {x v : Value} {n : Nat} {t : Tok} {Q : Unit → Shared → Prop} (hl : s.heap.get? l = some (lo (vs ++ [x]) n))
    (hQ : ∀ h' n', Heap.SameBut l s.heap h' → h'.get? l = some (lo (vs ++ [v]) n') → Q () { s with heap := h' }) : wpAny (model prog w) A (setItem (.ref l) (.int (-1) t) v) Q E s := by
  have hL := isL_of hl
  unfold setItem
  try with_reducible refine wpAny_holding ?_
  first | refine wpAny_bind (wpAny_pure ?_) | skip
  refine wpAny_bind (wpAny_sequenceKey hL.typeIs (by decide) ?_)
  refine wpAny_bind (wpAny_callSpecial?_slot (name := Str.ofString "__setitem__") hL.typeIs slot_list_setitem
    (wpAny_call_entry slot_list_setitem hL.typeIs entry_list_setitem ?_ (args_list_setitem _ _ _)))
  show wpAny _ _ (Builtin.List.listSubscript? (.int (-1) t) >>= _) _ _ s
  refine wpAny_bind (wpAny_listSubscript_int (fitsIndex_neg (by decide) (by decide)) ?_)
  have hidx := seqIndex_neg (k := -1) (n := (vs ++ [x]).toArray.size) (by decide) (by simp; omega)
  show wpAny _ _ ((Builtin.List.listItems (.ref l) >>= fun xs => pure ((seqIndex? (Int.negSucc 0) xs.size).bind fun i => xs[i]?.map (i, ·))) >>= _) _ _ s
  refine wpAny_bind (wpAny_bind ?_)
  show wpAny _ _ (seqItems? (.ref l) >>= _) _ _ s
  refine wpAny_bind (wpAny_seqItems hl rfl (wpAny_pure (wpAny_pure ?_)))
  have hj : ((-1 : Int) + ((vs ++ [x]).toArray.size : Nat)).toNat = vs.length := by simp; omega
  rw [hj] at hidx
  have hidx' : seqIndex? (Int.negSucc 0) (vs ++ [x]).toArray.size = some vs.length := hidx
  rw [hidx']
  have hx : (vs ++ [x]).toArray[vs.length]? = some x := by simp
  simp only [Option.bind_some, hx, Option.map_some]
  show wpAny _ _ (setSeqItemAt l vs.length v >>= _) _ _ s
  have g := Heap.get?_update_self (Obj.mapSeq (·.setIfInBounds vs.length v)) hl rfl
  have g' : (s.heap.update l (Obj.mapSeq (·.setIfInBounds vs.length v))).get? l = some (lo (vs ++ [v]) n) := by
    rw [g]
    simp [Obj.mapSeq]
  refine wpAny_bind (wpAny_setSeqItemAt hl rfl ?_)
  first
    | exact wpAny_bind (wpAny_pure (wpAny_pure ⟨.none, rfl, wpAny_pure (hQ _ n (Heap.SameBut.update ..) g')⟩))
    | exact wpAny_pure ⟨.none, rfl, wpAny_pure (hQ _ n (Heap.SameBut.update ..) g')⟩
theorem mul1 {h₀ : Heap} {L l : Addr} {m : Str → Option Value} {news : List (Addr × Obj)} {v : Value} {n : Nat} {x : Int} {u : Tok} {Q : Value → Shared → Prop} (Fm : Fr h₀ L s.heap m) (N : News h₀ L s.heap news) (hl : s.heap.get? l = some (lo [v] n)) (hx0 : 0 ≤ x) (hx1 : x ≤ 1000)
    (h : ∀ h', Fr h₀ L h' m → News h₀ L h' ((s.heap.objs.size, lo (List.replicate x.toNat v) 0) :: news) → Q (.ref s.heap.objs.size) { s with heap := h' }) :
    wpAny (model prog w) A (binaryOp .Mult (.ref l) (.int x u)) Q E s := by
  refine mul_list Fm N hl (by omega) (by omega) (by simp; omega) fun h' F' N' => h h' F' ?_
  have e : ∀ k : Nat, List.foldl (fun x1 x2 => x1 ++ x2) (#[] : Array Value) (List.replicate k #[v]) = (List.replicate k v).toArray := by
    have g : ∀ (k : Nat) (acc : List Value), List.foldl (fun x1 x2 => x1 ++ x2) acc.toArray (List.replicate k #[v]) = (acc ++ List.replicate k v).toArray := by
      intro k
      induction k with
      | zero => intro acc; simp
      | succ k ih =>
        intro acc
        rw [List.replicate_succ, List.foldl_cons]
        have : acc.toArray ++ #[v] = (acc ++ [v]).toArray := by simp
        rw [this, ih, List.replicate_succ]
        simp
    intro k
    simpa using g k []
  have e2 : (if [v].toArray.isEmpty = true then 0 else x.toNat) = x.toNat := if_neg (by simp)
  rw [e2, e] at N'
  exact N'
end
end Mine

end

section
open PySem PySem.W PyProof.Rows PySem.Calls
open PySem.Sem (wp)
set_option maxRecDepth 100000
set_option maxHeartbeats 8000000
set_option linter.unusedVariables false
namespace Mine
abbrev lawEnv (L fa : Addr) (cd : Value) : Env := envOfC (Str.ofString "law") (fnScope 7) L fa cd
def law1For : List Stmt := forBody (nth (fnBody 7) 3)
def Octs (xs : List Int) : Prop := ∀ x ∈ xs, 0 ≤ x ∧ x < 256
def tot (pss : List (List Int)) : Nat := (pss.map List.length).sum
theorem law1_turn {w : World} {s : Shared} {b0 : Heap} {L fa I P a : Addr} {cd : Value} {oI : Obj} {vs : List Value} {n nP : Nat} {as : List Addr} {fro : List (Addr × Obj)} {k r : Int} {u tr : Tok} {m : Str → Option Value} {mean} {mg mb : Str → Option Value} {Q : Flow → Shared → Prop}
   {pss : List (List Int)} {cur : List Int}
   (X : (hd.heap_39 w.params).In b0) (T : Top hd.view_39 (looseW hd.view_39 []) mean mg mb b0)
   (F : Fr b0 L s.heap (fun y => if y = Str.ofString "number" then some (.int k u) else m y)) (N : News b0 L s.heap ((I, oI) :: (a, lo vs n) :: (P, lo ((as ++ [a]).map Value.ref) nP) :: fro))
   (e1 : m (Str.ofString "packets") = some (.ref P)) (e2 : m (Str.ofString "room") = some (.int r tr))
   (hL : LLs fro as pss) (hV : IntsAre vs cur) (hO : Octs cur) (hOs : ∀ ps ∈ pss, Octs ps) (hr : 0 ≤ r) (ht : (tot pss : Int) + cur.length + r ≤ 270) (hz1 : as.length ≤ 10000)
   (haP : a ≠ P) (haI : a ≠ I) (hPI : P ≠ I) (hfa : ∀ p ∈ fro, p.1 ≠ a) (hfP : ∀ p ∈ fro, p.1 ≠ P) (hfI : ∀ p ∈ fro, p.1 ≠ I)
   (hQ : ∀ h' tk' m₂ a' vs' n' nP' as' fro' r' tr' pss' cur', Fr b0 L h' m₂ → (∀ y, y ≠ Str.ofString "run" → y ≠ Str.ofString "room" → y ≠ Str.ofString "number" → m₂ y = m y) → News b0 L h' ((I, oI) :: (a', lo vs' n') :: (P, lo ((as' ++ [a']).map Value.ref) nP') :: fro') →
     m₂ (Str.ofString "room") = some (.int r' tr') → LLs fro' as' pss' → IntsAre vs' cur' → Octs cur' → (∀ ps ∈ pss', Octs ps) → 0 ≤ r' → (tot pss' : Int) + cur'.length + r' ≤ 270 → as'.length ≤ as.length + 1 →
     a' ≠ P → a' ≠ I → (∀ p ∈ fro', p.1 ≠ a') → (∀ p ∈ fro', p.1 ≠ P) → (∀ p ∈ fro', p.1 ≠ I) → (∀ p ∈ fro, p ∈ fro') → Q .next { s with heap := h', toks := tk' }) :
   wpG (model PySem.Challenge.rw_nc0008_01.row.prog w) (callerA.deeper (lawEnv L fa cd)) (execs law1For (lawEnv L fa cd)) Q s := by
  revert X
  k_fill
  intro X
  have F := fr_known (x := Str.ofString "packets") (fr_known (x := Str.ofString "room") F e2) e1
  have tail : ∀ (h : Heap) (tk : Nat) (m' : Str → Option Value) (x : Int) (tx : Tok), Fr b0 L h m' → (∀ y, y ≠ Str.ofString "run" → y ≠ Str.ofString "room" → y ≠ Str.ofString "number" → m' y = m y) → m' (Str.ofString "packets") = some (.ref P) →
      m' (Str.ofString "room") = some (.int r tr) → m' (Str.ofString "number") = some (.int k u) → m' (Str.ofString "run") = some (.int x tx) → News b0 L h ((I, oI) :: (a, lo vs n) :: (P, lo ((as ++ [a]).map Value.ref) nP) :: fro) → 0 ≤ x → x ≤ r →
      wpG (model PySem.Challenge.rw_nc0008_01.row.prog w) (callerA.deeper (lawEnv L fa cd)) (execs ((ifElse (nth law1For 0)).drop 1) (lawEnv L fa cd))
        (fun f s' => match f with | .next => wpG (model PySem.Challenge.rw_nc0008_01.row.prog w) (callerA.deeper (lawEnv L fa cd)) (execs [] (lawEnv L fa cd)) Q s' | f => Q f s') { s with heap := h, toks := tk } := by
    clear F N
    intro h tk m' x tx F hm e1 e2 e3 e4 N hx0 hx1
    have F := fr_known (x := Str.ofString "packets") (fr_known (x := Str.ofString "room") (fr_known (x := Str.ofString "number") (fr_known (x := Str.ofString "run") F e4) e3) e2) e1
    refine execsG_leaf (wpAny_AugAssign_SubscriptAny ?_)
    k_steps
    have hP := N.get (.tail _ (.tail _ (.head _)))
    have hP' : h.get? P = some (lo (as.map Value.ref ++ [.ref a]) nP) := by simpa using hP
    refine wpAny_getItem_list_neg (isL_of hP') (by decide) (by simp; omega) (by decide) (x := .ref a) (by
      have : ((-1 : Int) + ((as.map Value.ref ++ [Value.ref a]).toArray.size : Nat)).toNat = as.length := by simp; omega
      rw [this]; simp) ?_
    k_steps
    (with_reducible rename Fr _ _ _ _ => F1)
    (with_reducible rename News _ _ _ _ => N1)
    rename_i c hc1 Fc Nc lc d hd1 i1 n1 s1 ee1 ee2 ee3 ld
    dsimp only at F1 N1 ⊢
    clear Fc Nc
    have hn1 := ee3 hx0
    have hsl : ((List.replicate x.toNat [Value.int (k.fmod 256) (tk + 1 + 1 + 1)]).flatten).length = n1 := by simpa using s1
    generalize (List.replicate x.toNat [Value.int (k.fmod 256) (tk + 1 + 1 + 1)]).flatten = ws at N1 i1 hsl ⊢
    have hoct : Octs (List.replicate x.toNat [k.fmod 256]).flatten := by
      intro y hy
      obtain ⟨l, hl, hy⟩ := List.mem_flatten.mp hy
      rw [List.eq_of_mem_replicate hl] at hy
      rw [List.mem_singleton.mp hy]
      exact ⟨Int.fmod_nonneg_of_pos k (by decide), Int.fmod_lt_of_pos k (by decide)⟩
    generalize (List.replicate x.toNat [k.fmod 256]).flatten = ys at i1 ee1 hoct
    have hvl := hV.length
    refine inplace_list (N1.get (.tail _ (.tail _ (.tail _ (.head _))))) (N1.get (.head _)) (by omega) fun h3 n3 hs3 hA3 => ?_
    obtain ⟨F3, N3⟩ := led_upd (pre := [(d, lo ws 0), (c, W.listOf #[Value.int (k.fmod 256) (tk + 1 + 1 + 1)] 0), (I, oI)]) (post := (P, lo ((as ++ [a]).map Value.ref) nP) :: fro) F1 N1 (by
      simp
      exact ⟨Nat.ne_of_gt ld.2.2.1, Nat.ne_of_gt lc.2.1, Ne.symm haI⟩) (by
      intro p hp
      rcases List.mem_cons.mp hp with rfl | hp
      · exact Ne.symm haP
      · exact hfa p hp) hs3 hA3
    have hP3 := N3.get (List.mem_append_right _ (.tail _ (.head _)))
    refine setItem_last (vs := as.map Value.ref) (x := .ref a) (n := nP) (by simpa using hP3) fun h4 n4 hs4 hP4 => ?_
    obtain ⟨F4, N4⟩ := led_upd (pre := [(d, lo ws 0), (c, W.listOf #[Value.int (k.fmod 256) (tk + 1 + 1 + 1)] 0), (I, oI), (a, lo (vs ++ ws) n3)]) (post := fro) F3 N3 (by
      simp
      exact ⟨Nat.ne_of_gt ld.2.2.2.1, Nat.ne_of_gt lc.2.2.1, Ne.symm hPI, haP⟩) hfP hs4 hP4
    clear F1 N1 F3 N3
    dsimp only at F4 N4 ⊢
    refine execsG_leaf ?_
    k_steps
    (with_reducible rename Fr _ _ _ _ => F5)
    (with_reducible rename News _ _ _ _ => N5)
    repeat refine execsG_nil ?_
    refine hQ _ _ _ a (vs ++ ws) n3 n4 as fro (r - x) _ pss (cur ++ ys) F5 ?_ ?_ rfl hL (intsAre_append hV i1) ?_ hOs (by omega) ?_ (by omega) haP haI hfa hfP hfI fun p hp => hp
    · intro y h1 h2 h3
      by_cases h0 : y = Str.ofString "packets"
      · subst h0
        show some (Value.ref P) = m _
        rw [← hm _ h1 h2 h3]
        exact e1.symm
      · simp only [if_neg h1, if_neg h2, if_neg h3, if_neg h0]
        exact hm y h1 h2 h3
    · intro p hp
      refine N5 p ?_
      simp only [List.mem_cons, List.mem_append, List.map_append, List.map_cons, List.map_nil] at hp ⊢
      rcases hp with h | h | h | h <;> simp [h]
    · intro y hy
      exact (List.mem_append.mp hy).elim (hO y) (hoct y)
    · simp only [List.length_append]
      omega
  refine execsG_cons (ifG ?_)
  k_steps
  · rename_i hk
    (with_reducible rename Fr _ _ _ _ => F1)
    (with_reducible rename News _ _ _ _ => N1)
    refine execsG_leaf (appendL ?_)
    k_steps
    refine ⟨P, _, nP, rfl, N1.get (.tail _ (.tail _ (.head _))), ?_⟩
    refine eval_nil ?_
    obtain ⟨F2, N2, lt2⟩ := led_new F1 N1 (h' := s.heap.push (lo [] 0)) (fun b ob e => Heap.get?_push_of_some _ e) (Heap.get?_push_size _ rfl)
    refine ⟨_, nP, N2.get (.tail _ (.tail _ (.tail _ (.head _)))), by simp; omega, fun h' hs hP' => ?_⟩
    dsimp only at F2 N2 lt2 hs hP' ⊢
    generalize s.heap.objs.size = a' at F2 N2 lt2 hP' ⊢
    have l1 := lt2 _ (.head _)
    have l2 := lt2 _ (.tail _ (.head _))
    have l3 := lt2 _ (.tail _ (.tail _ (.head _)))
    have l4 : ∀ p ∈ fro, p.1 < a' := fun p hp => lt2 p (.tail _ (.tail _ (.tail _ hp)))
    dsimp only at l1 l2 l3
    obtain ⟨F3, N3⟩ := led_upd (pre := [(a', lo [] 0), (I, oI), (a, lo vs n)]) (post := fro) F2 N2 (by simp; exact ⟨Nat.ne_of_gt l3, Ne.symm hPI, haP⟩) hfP hs hP'
    repeat refine execsG_nil ?_
    refine hQ h' _ _ a' [] 0 (nP + 1) (as ++ [a]) ((a, lo vs n) :: fro) r tr (pss ++ [cur]) [] F3 ?_ ?_ rfl ?_ .nil ?_ ?_ hr ?_ (by simp) (Nat.ne_of_gt l3) (Nat.ne_of_gt l1) ?_ ?_ ?_ fun p hp => .tail _ hp
    · intro y h1 h2 h3
      by_cases h0 : y = Str.ofString "packets"
      · subst h0
        show some (Value.ref P) = m _
        exact e1.symm
      · simp only [if_neg h2, if_neg h3, if_neg h0]
    · intro p hp
      refine N3 p ?_
      simp only [List.mem_cons, List.mem_append, List.map_append, List.map_cons, List.map_nil] at hp ⊢
      rcases hp with h | h | h | h | h <;> simp [h]
    · exact LLs.append (hL.mono fun p hp => .tail _ hp) (.cons ⟨vs, n, .head _, hV⟩ .nil)
    · intro y hy; nomatch hy
    · intro ps hps
      rcases List.mem_append.mp hps with hps | hps
      · exact hOs ps hps
      · rw [List.mem_singleton.mp hps]; exact hO
    · have : tot (pss ++ [cur]) = tot pss + cur.length := by simp [tot]
      rw [this]; simp; omega
    · intro p hp
      rcases List.mem_cons.mp hp with rfl | hp
      · exact Nat.ne_of_lt l2
      · exact Nat.ne_of_lt (l4 p hp)
    · intro p hp
      rcases List.mem_cons.mp hp with rfl | hp
      · exact haP
      · exact hfP p hp
    · intro p hp
      rcases List.mem_cons.mp hp with rfl | hp
      · exact haI
      · exact hfI p hp
  · rename_i hk
    have hmm : ∀ (v : Value) y, y ≠ Str.ofString "run" → y ≠ Str.ofString "room" → y ≠ Str.ofString "number" → (if y = Str.ofString "run" then some v else if y = Str.ofString "packets" then some (.ref P) else if y = Str.ofString "room" then some (.int r tr) else if y = Str.ofString "number" then some (.int k u) else m y) = m y := by
      intro v y h1 h2 h3
      rw [if_neg h1]
      by_cases h0 : y = Str.ofString "packets"
      · rw [if_pos h0, h0, e1]
      · rw [if_neg h0, if_neg h2, if_neg h3]
    refine execsG_leaf ?_
    k_steps
    · rename_i hb _ _ _
      have q1 := Int.fmod_nonneg_of_pos (k.fdiv 256) (b := 300) (by decide)
      have q2 := Int.fmod_lt_of_pos (k.fdiv 256) (b := 300) (by decide)
      (with_reducible rename Fr _ _ _ _ => F1)
      (with_reducible rename News _ _ _ _ => N1)
      exact tail _ _ _ _ _ F1 (hmm _) rfl rfl rfl rfl N1 (by split <;> omega) (by split <;> omega)
    · (with_reducible rename Fr _ _ _ _ => F1)
      (with_reducible rename News _ _ _ _ => N1)
      exact tail _ _ _ _ _ F1 (hmm _) rfl rfl rfl rfl N1 (by split <;> omega) (by split <;> omega)
end Mine

end

section
open PySem PySem.W PyProof.Rows PySem.Calls
open PySem.Sem (wp)
set_option maxRecDepth 100000
set_option maxHeartbeats 8000000
set_option linter.unusedVariables false
namespace Mine
/-- a turn over a list of the ledger -/
def TurnL (b0 : Heap) (L I : Addr) (oI : Obj) (e : Addr × Obj) (Jn : (Str → Option Value) → List (Addr × Obj) → Prop) (s₀ : Shared) (R : Flow → Shared → Prop) (f : Flow) (s' : Shared) : Prop :=
  match f with
  | .ret v => R (.ret v) s'
  | .brk => R .next s'
  | _ => ∃ h' tk' m₂ news₂, s' = { s₀ with heap := h', toks := tk' } ∧ Fr b0 L h' m₂ ∧ News b0 L h' ((I, oI) :: news₂) ∧ (∀ p ∈ news₂, p.1 ≠ I) ∧ e ∈ news₂ ∧ Jn m₂ news₂
theorem codeG_forList {prog : Program} {w : World} {A : Around} {s : Shared} {env : Env} {R : Flow → Shared → Prop} {b0 : Heap} {x : Str} {px : Pos} {body : List Stmt} {l : Addr} {vs : List Value} {n : Nat} {m : Str → Option Value} {news : List (Addr × Obj)}
    (hh : A.handled = none) (hx : env.kindOf x = some .local) (hp : (env.scope.kind == .class || (env.scope.kind == .module && env.locals != env.globals)) = false)
    (F : Fr b0 env.locals s.heap m) (N : News b0 env.locals s.heap news) (hl : (l, lo vs n) ∈ news)
    (J : Nat → (Str → Option Value) → List (Addr × Obj) → Prop) (h0 : J 0 m news)
    (step : ∀ i v m₁ news₁ h tk I oI, vs[i]? = some v → J i m₁ news₁ → (l, lo vs n) ∈ news₁ → (∀ p ∈ news₁, p.1 ≠ I) → Fr b0 env.locals h (fun y => if y = x then some v else m₁ y) → News b0 env.locals h ((I, oI) :: news₁) →
      wpG (model prog w) A (execs body env) (TurnL b0 env.locals I oI (l, lo vs n) (J (i + 1)) s R) { s with heap := h, toks := tk })
    (hR : ∀ h tk m' news', Fr b0 env.locals h m' → News b0 env.locals h news' → (l, lo vs n) ∈ news' → J vs.length m' news' → R .next { s with heap := h, toks := tk }) :
    wpAny (model prog w) A (pyIter (.ref l)) (fun it s₂ => codeG (model prog w) A (.forLoop (.Name x px) it body [] env) R s₂) noE s := by
  have hls := isL_of (N.get hl)
  refine wpAny_pyIter_list hls ?_
  have hlL : l ≠ env.locals := (N _ hl).2.1
  have hne : l ≠ s.heap.objs.size := Nat.ne_of_lt (Heap.lt_size (N.get hl))
  have W := Walks.list (prog := prog) (w := w) (A := A) hh s.heap.objs.size l hne vs.toArray
  rw [List.size_toArray] at W
  refine' forLedG (h₀ := b0) W hx hp ?hLf ?hI ?hnw ?hst ?hIs ?hIst (F.push _) ?hN (fun i m₁ news₁ => J i m₁ news₁ ∧ (l, lo vs n) ∈ news₁) ⟨h0, hl⟩ ?step ?hR
  case hLf =>
    intro hm
    rcases List.mem_cons.mp hm with e | hm
    · exact absurd F.ns.lt (e ▸ Nat.lt_irrefl _)
    · exact hlL (List.mem_singleton.mp hm).symm
  case hI => exact next_is_new F
  case hnw => exact fun p hp e => absurd (Heap.lt_size (N p hp).1) (e ▸ Nat.lt_irrefl _)
  case hst => exact ⟨⟨_, Heap.get?_push_size _ rfl, rfl, rfl⟩, hls.at fun o e => Heap.get?_push_of_some _ e⟩
  case hIs => exact ⟨_, Heap.get?_push_size _ rfl⟩
  case hIst => exact fun i h st => ⟨_, st.1.choose_spec.1⟩
  case hN => exact fun p hp => ⟨Heap.get?_push_of_some _ (N p hp).1, (N p hp).2⟩
  case step =>
    rintro i v m₁ news₁ h tk oI hi hv st ⟨hJ, hm⟩ hoff F₁ N₁
    refine wpG_mono (step i v m₁ news₁ h tk _ oI (by simpa using hv) hJ hm hoff F₁ N₁) fun f s' hf => ?_
    have key : (∃ h' tk' m₂ news₂, s' = { s with heap := h', toks := tk' } ∧ Fr b0 env.locals h' m₂ ∧ News b0 env.locals h' ((s.heap.objs.size, oI) :: news₂) ∧ (∀ p ∈ news₂, p.1 ≠ s.heap.objs.size) ∧ (l, lo vs n) ∈ news₂ ∧ J (i + 1) m₂ news₂) →
        Turned b0 env.locals s.heap.objs.size oI [s.heap.objs.size, l] h (fun m₁ news₁ => J (i + 1) m₁ news₁ ∧ (l, lo vs n) ∈ news₁) { s with heap := s.heap.push { cls := .type "list_iterator", data := .fields #[.ref l, .int 0 0] } } s' := by
      rintro ⟨h', tk', m₂, news₂, rfl, F₂, N₂, ho, hm₂, hJ₂⟩
      refine ⟨h', tk', m₂, news₂, rfl, F₂, N₂, ho, ?_, hJ₂, hm₂⟩
      intro b hb hbI o e
      rcases List.mem_cons.mp hb with hb | hb
      · exact absurd hb hbI
      · rw [List.mem_singleton.mp hb] at e ⊢
        have h1 := N₁.get (.tail _ hm)
        have h2 := N₂.get (.tail _ hm₂)
        rw [h1] at e
        rw [h2, e]
    cases f with
    | ret v => exact hf
    | brk => exact hf
    | next => exact key hf
    | cont => exact key hf
  case hR =>
    rintro h' tk m' news' F' N' _ ⟨hJ, hm⟩
    exact hR h' tk m' news' F' N' hm hJ

/-- the packets as they stand behind the first loop -/
structure Pk (L : Addr) (oc : Obj) (ns : List Int) (m : Str → Option Value) (led : List (Addr × Obj)) (nb P : Addr) (nvs : List Value) (pss : List (List Int)) : Prop where
  eNb : m (Str.ofString "numbers") = some (.ref nb)
  inNb : (nb, lo nvs 0) ∈ led
  areNb : IntsAre nvs (ns.take 24)
  ePk : m (Str.ofString "packets") = some (.ref P)
  inPk : LLIn led P pss
  hne : pss ≠ []
  hfew : pss.length ≤ 25
  hocts : ∀ ps ∈ pss, Octs ps
  htot : tot pss ≤ 270
  inCell : (L + 1, oc) ∈ led

theorem law_phase1 {w : World} {s : Shared} {b0 : Heap} {L fa sa : Addr} {cd : Value} {oc : Obj} {vs : List Value} {ns : List Int} {m : Str → Option Value} {mean} {mg mb : Str → Option Value} {Q : Flow → Shared → Prop}
   (X : (hd.heap_39 w.params).In b0) (T : Top hd.view_39 (looseW hd.view_39 []) mean mg mb b0)
   (F : Fr b0 L s.heap m) (N : News b0 L s.heap [(L + 1, oc)]) (e1 : m (Str.ofString "script") = some (.ref sa)) (hsa : b0.IsList sa vs.toArray) (hi : IntsAre vs ns) (hlen : ns.length ≤ 63)
   (hK : ∀ h tk m' led nb P nvs pss r tr, Fr b0 L h m' → News b0 L h led → Pk L oc ns m' led nb P nvs pss → m' (Str.ofString "room") = some (.int r tr) →
      wpG (model PySem.Challenge.rw_nc0008_01.row.prog w) (callerA.deeper (lawEnv L fa cd)) (execs ((fnBody 7).drop 4) (lawEnv L fa cd)) Q { s with heap := h, toks := tk }) :
   wpG (model PySem.Challenge.rw_nc0008_01.row.prog w) (callerA.deeper (lawEnv L fa cd)) (execs (fnBody 7) (lawEnv L fa cd)) Q s := by
  revert X
  k_fill
  intro X
  have F := fr_known (x := Str.ofString "script") F e1
  refine execsG_leaf ?_
  refine wpAny_Assign_Name ?_
  refine sliceE ?_
  k_steps
  (with_reducible rename Fr _ _ _ _ => F1)
  (with_reducible rename News _ _ _ _ => N1)
  refine ⟨sa, vs, none, some 24, rfl, hsa.at fun o e => F1.keep sa o e, by rw [hi.length]; omega, .none, .int _ _, fun h' hk hnew => ?_⟩
  obtain ⟨F2, N2⟩ := led_ext F1 N1 hk
  have N3 : News b0 L h' ((s.heap.objs.size + 1, lo (vs.take 24) 0) :: [(L + 1, oc)]) := by
    refine news_append (xs := [(s.heap.objs.size + 1, lo (vs.take 24) 0)]) (news_of_ents F1 fun p hp => ?_) N2
    rw [List.mem_singleton.mp hp]
    refine ⟨?_, ?_⟩
    · rw [hnew]
      simp only [Option.elim, List.drop_zero, Nat.sub_zero]
      rw [show (24 : Int) = ((24 : Nat) : Int) from rfl, clipAt_nat]
      rw [← List.take_take, List.take_length]
    · cases hq : s.heap.get? (s.heap.objs.size + 1) with
      | none => rfl
      | some q => exact absurd (Heap.lt_size hq) (Nat.not_lt.mpr (Nat.le_succ _))
  clear F1 N1 N2 hk
  dsimp only at F2 N3 ⊢
  generalize s.heap.objs.size + 1 = nb at N3 ⊢
  k_steps
  refine execsG_leaf ?_
  k_steps
  dsimp only
  refine execsG_leaf ?_
  k_steps
  dsimp only
  (with_reducible rename Fr _ _ _ _ => F4)
  (with_reducible rename News _ _ _ _ => N4)
  rename_i _ a _ l1 P _ l2 _ _
  refine execsG_cons (forG ?_)
  k_steps
  have N5 : News b0 L _ ((a, lo [] 0) :: (P, lo (([] ++ [a]).map Value.ref) 0) :: [(nb, lo (vs.take 24) 0), (L + 1, oc)]) := fun p hp => N4 p (by
    simp only [List.mem_cons] at hp ⊢
    rcases hp with h | h | h | h | h <;> simp [h] <;> exact .inl ⟨rfl, rfl⟩)
  refine codeG_forList (b0 := b0) (l := nb) (vs := vs.take 24) (n := 0) rfl rfl rfl F4 N5 (.tail _ (.tail _ (.head _)))
    (fun i m₁ news₁ => ∃ (a : Addr) (ws : List Value) (n nP : Nat) (as : List Addr) (fro : List (Addr × Obj)) (r : Int) (tr : Tok) (pss : List (List Int)) (cur : List Int), news₁ = (a, lo ws n) :: (P, lo ((as ++ [a]).map Value.ref) nP) :: fro ∧
      m₁ (Str.ofString "packets") = some (.ref P) ∧ m₁ (Str.ofString "numbers") = some (.ref nb) ∧ m₁ (Str.ofString "room") = some (.int r tr) ∧ LLs fro as pss ∧ IntsAre ws cur ∧ Octs cur ∧ (∀ ps ∈ pss, Octs ps) ∧ 0 ≤ r ∧ (tot pss : Int) + cur.length + r ≤ 270 ∧
      as.length ≤ i ∧ a ≠ P ∧ (∀ p ∈ fro, p.1 ≠ a) ∧ (∀ p ∈ fro, p.1 ≠ P) ∧ (nb, lo (vs.take 24) 0) ∈ fro ∧ (L + 1, oc) ∈ fro)
    ⟨a, [], 0, 0, [], _, 270, _, [], [], rfl, rfl, rfl, rfl, .nil, .nil, fun _ h => (nomatch h), fun _ h => (nomatch h), by decide, by simp [tot], by simp, Nat.ne_of_lt l2.1, ?_, ?_, .head _, .tail _ (.head _)⟩ ?_ ?_
  · intro p hp
    rcases List.mem_cons.mp hp with rfl | hp
    · exact Nat.ne_of_lt l1.1
    · rw [List.mem_singleton.mp hp]; exact Nat.ne_of_lt l1.2
  · intro p hp
    rcases List.mem_cons.mp hp with rfl | hp
    · exact Nat.ne_of_lt l2.2.1
    · rw [List.mem_singleton.mp hp]; exact Nat.ne_of_lt l2.2.2
  · clear F4 N4 N5 l1 l2
    rintro i v m₁ news₁ h tk I oI hv ⟨a, ws, n, nP, as, fro, r, tr, pss, cur, rfl, e1, e2, e3, hL, hV, hO, hOs, hr, ht, hz, haP, hfa, hfP, hnb, hcell⟩ hm hoff F N
    have hi24 := intsAre_take hi 24
    obtain ⟨k, t, rfl, hk⟩ := IntsAre.at hi24 i v hv
    have hilt : i < 24 := by
      have := (List.getElem?_eq_some_iff.mp hv).1
      simp at this; omega
    have haI : a ≠ I := hoff _ (.head _)
    have hPI : P ≠ I := hoff _ (.tail _ (.head _))
    refine law1_turn X T F N e1 e3 hL hV hO hOs hr ht (by omega) haP haI hPI hfa hfP (fun p hp => hoff p (.tail _ (.tail _ hp))) ?_
    intro h' tk' m₂ a' ws' n' nP' as' fro' r' tr' pss' cur' F' hm₂ N' q1 q2 q3 q4 q5 q6 q7 q8 q9 q10 q11 q12 q13 q14
    refine ⟨h', tk', m₂, _, rfl, F', N', ?_, .tail _ (.tail _ (q14 _ hnb)), a', ws', n', nP', as', fro', r', tr', pss', cur', rfl, ?_, ?_, q1, q2, q3, q4, q5, q6, q7, by omega, q9, q11, q12, q14 _ hnb, q14 _ hcell⟩
    · intro p hp
      rcases List.mem_cons.mp hp with rfl | hp
      · exact q10
      · rcases List.mem_cons.mp hp with rfl | hp
        · exact hPI
        · exact q13 p hp
    · rw [hm₂ _ (by decide) (by decide) (by decide)]; exact e1
    · rw [hm₂ _ (by decide) (by decide) (by decide)]; exact e2
  · clear F4 N4 N5 l1 l2
    rintro h tk m' news' F N hm ⟨a, ws, n, nP, as, fro, r, tr, pss, cur, rfl, e1, e2, e3, hL, hV, hO, hOs, hr, ht, hz, haP, hfa, hfP, hnb, hcell⟩
    dsimp only
    refine hK h tk m' _ nb P (vs.take 24) (pss ++ [cur]) r tr F N ⟨e2, hm, intsAre_take hi 24, e1, ⟨as ++ [a], nP, .tail _ (.head _), ?_⟩, by simp, ?_, ?_, ?_, .tail _ (.tail _ hcell)⟩ e3
    · exact LLs.append (hL.mono fun p hp => .tail _ (.tail _ hp)) (.cons ⟨ws, n, .head _, hV⟩ .nil)
    · have := hL.length
      simp at hz ⊢; omega
    · intro ps hps
      rcases List.mem_append.mp hps with hps | hps
      · exact hOs ps hps
      · rw [List.mem_singleton.mp hps]; exact hO
    · have : tot (pss ++ [cur]) = tot pss + cur.length := by simp [tot]
      rw [this]; omega
end Mine

end

section
open PySem PySem.W PyProof.Rows PySem.Calls
open PySem.Sem (wp)
set_option maxRecDepth 100000
set_option maxHeartbeats 8000000
set_option linter.unusedVariables false
namespace Mine
def law2For : List Stmt := forBody (nth (fnBody 7) 6)
theorem news_but {b0 h h' : Heap} {L : Addr} {news : List (Addr × Obj)} (N : News b0 L h news) (hk : ∀ b o, b ≠ L → h.get? b = some o → h'.get? b = some o) : News b0 L h' news :=
  fun p hp => ⟨hk _ _ (N p hp).2.1 (N p hp).1, (N p hp).2⟩
theorem fn_ex {K : Frag} {b0 : Heap} {a : Addr} {oc : Value} {od : Option Addr} {osl : Array (Option Value)} {name qual : Str} {params : Arguments} {body : List Stmt} {scope : PySem.Scope} {dV kV doc pm cdv ct : Value} {an : Option Addr} (X : K.In b0)
    (ho : K.lookup a = some ⟨oc, od, .func (fnOf name qual params body scope dV kV doc pm an cdv ct), osl⟩) : ∃ (o : Obj) (fd : FuncData), b0.get? a = some o ∧ o.data = .func fd := ⟨_, _, X _ _ ho, rfl⟩
theorem law_depth (L fa : Addr) (cd : Value) : (callerA.deeper (lawEnv L fa cd)).depth < recursionLimit := by
  show callerA.depth + 1 < recursionLimit
  decide
theorem law_kind (L fa : Addr) (cd : Value) : (lawEnv L fa cd).scope.kind ≠ .module := by
  show (fnScope 7).kind ≠ .module
  decide
theorem law2_turn {w : World} {s : Shared} {b0 : Heap} {L fa I S E pa : Addr} {cd : Value} {oI : Obj} {svs evs pvs : List Value} {nS nE nP : Nat} {fro : List (Addr × Obj)} {m : Str → Option Value} {mean} {mg mb : Str → Option Value} {Q : Flow → Shared → Prop}
   {stream ends ps : List Int}
   (X : (hd.heap_39 w.params).In b0) (T : Top hd.view_39 (looseW hd.view_39 []) mean mg mb b0)
   (F : Fr b0 L s.heap (fun y => if y = Str.ofString "packet" then some (.ref pa) else m y)) (N : News b0 L s.heap ((I, oI) :: (S, lo svs nS) :: (E, lo evs nE) :: fro))
   (e1 : m (Str.ofString "stream") = some (.ref S)) (e2 : m (Str.ofString "ends") = some (.ref E)) (hpa : (pa, lo pvs nP) ∈ fro) (hpv : IntsAre pvs ps) (hO : Octs ps) (hpl : ps.length ≤ 270)
   (hS : IntsAre svs stream) (hE : IntsAre evs ends) (hz1 : stream.length ≤ 30000) (hz2 : ends.length ≤ 30000)
   (hSE : S ≠ E) (hSI : S ≠ I) (hEI : E ≠ I) (hfS : ∀ p ∈ fro, p.1 ≠ S) (hfE : ∀ p ∈ fro, p.1 ≠ E)
   (hQ : ∀ h' tk' m₂ svs' evs' nS' nE' rs, Fr b0 L h' m₂ → (∀ y, y ≠ Str.ofString "packet" → m₂ y = m y) → News b0 L h' ((I, oI) :: (S, lo svs' nS') :: (E, lo evs' nE') :: fro) →
     Enc ps rs → Octs rs → IntsAre svs' (stream ++ (rs ++ [0])) → IntsAre evs' (ends ++ [((stream ++ (rs ++ [0])).length : Int)]) → Q .next { s with heap := h', toks := tk' }) :
   wpG (model PySem.Challenge.rw_nc0008_01.row.prog w) (callerA.deeper (lawEnv L fa cd)) (execs law2For (lawEnv L fa cd)) Q s := by
  revert X
  k_fill
  intro X
  have F := fr_known (x := Str.ofString "stream") (fr_known (x := Str.ofString "ends") F e2) e1
  obtain ⟨oF, fF, hoF, hfF⟩ : ∃ (o : Obj) (fd : FuncData), b0.get? 34 = some o ∧ o.data = .func fd := by
    refine' fn_ex X ?h
    case h => k_is
  refine execsG_cons (augG ?_)
  k_steps
  refine binopG ?_
  refine callNameG ?_
  k_steps
  refine callWithG_type rfl (evalArgs1G ?_)
  refine callNameG ?_
  k_steps
  refine callWithG_function (o := oF) (fd := fF) ?_
  refine callNameG ?_
  k_steps
  refine callWithG_type rfl (evalArgs1G (wpG_leaf ?_))
  k_steps
  (with_reducible rename Fr _ _ _ _ => F1)
  (with_reducible rename News _ _ _ _ => N1)
  show wpG _ _ (call (Value.type "bytes") [Value.ref pa]) _ _
  refine wpG_leaf (call_bytes_ints (isL_of (N1.get (.tail _ (.tail _ (.tail _ hpa))))) hpv hO (by rw [hpv.length, sizeLine_eq]; omega) rfl fun h2 t2 k2 hk2 => ?_)
  obtain ⟨F2, N2⟩ := led_ext F1 N1 hk2
  clear F1 N1
  refine ⟨⟨F2.keep _ _ hoF, hfF⟩, ?_⟩
  have hbl : (byteArr ps).size = ps.length := byteArr_size ps
  refine encode_call (envC := lawEnv L fa cd) X T (law_depth L fa cd) rfl rfl rfl (law_kind L fa cd) F2 (by rw [hbl]; omega) fun r t3 h3 k3 hk3 F3 hEnc hr => ?_
  have hb : KBw.bInts (byteArr ps) = ps := KBa.ints_make hO
  rw [hb] at hEnc
  have N3 := news_but N2 hk3
  clear F2 N2 hk2 hk3
  show wpG _ _ (call (Value.type "list") [Value.bytes r t3]) _ _
  refine wpG_leaf (call_list_bytes_s rfl r t3 (fun h4 k4 rvs rn hk4 hnew hri => ?_) (by omega))
  obtain ⟨F4, N4, lt4⟩ := led_new F3 N3 hk4 hnew
  clear F3 N3 hk4 hnew
  dsimp only at F4 N4 lt4 ⊢
  generalize h3.objs.size = q at N4 lt4 ⊢
  k_steps
  (with_reducible rename Fr _ _ _ _ => F5)
  (with_reducible rename News _ _ _ _ => N5)
  rename_i z hz5 l1
  have hrl := hri.length
  rw [KBw.ints_length] at hrl
  refine P.add_list (items := rvs.toArray) (items2 := #[Value.int 0 k4]) (n := rn) (n2 := 0) (N5.get (.tail _ (.head _))) (N5.get (.head _)) ?_ (by rw [sizeLine_eq]; simp; omega)
  have e6 : rvs.toArray ++ #[Value.int 0 k4] = (rvs ++ [Value.int 0 k4]).toArray := by simp
  rw [e6]
  obtain ⟨F6, N6, lt6⟩ := led_new F5 N5 (h' := hz5.push (lo (rvs ++ [Value.int 0 k4]) 0)) (fun b ob e => Heap.get?_push_of_some _ e) (Heap.get?_push_size _ rfl)
  clear F5 N5
  dsimp only at F6 N6 lt6 ⊢
  generalize hz5.objs.size = y at N6 lt6 ⊢
  have ly := lt6 _ (.tail _ (.tail _ (.tail _ (.head _))))
  have lq := lt4 _ (.tail _ (.head _))
  dsimp only at ly lq
  refine wpG_leaf (inplace_list (N6.get (.tail _ (.tail _ (.tail _ (.tail _ (.head _)))))) (N6.get (.head _)) (by rw [hS.length]; simp; omega) fun h7 n7 hs7 hS7 => ?_)
  obtain ⟨F7, N7⟩ := led_upd (pre := [(y, lo (rvs ++ [Value.int 0 k4]) 0), (z, W.listOf #[Value.int 0 k4] 0), (q, lo rvs rn), (I, oI)]) (post := (E, lo evs nE) :: fro) F6 N6 (by
    simp
    exact ⟨Nat.ne_of_gt ly, Nat.ne_of_gt l1.2.2.1, Nat.ne_of_gt lq, Ne.symm hSI⟩) (by
    intro p hp
    rcases List.mem_cons.mp hp with rfl | hp
    · exact Ne.symm hSE
    · exact hfS p hp) hs7 hS7
  have N8 : News b0 L h7 ((I, oI) :: (S, lo (svs ++ (rvs ++ [Value.int 0 k4])) n7) :: (E, lo evs nE) :: fro) := fun p hp => N7 p (by
    simp only [List.mem_cons, List.mem_append] at hp ⊢
    rcases hp with h | h | h | h <;> simp [h])
  clear F6 N6 N7
  dsimp only at F7 ⊢
  k_steps
  (with_reducible rename Fr _ _ _ _ => F9)
  (with_reducible rename News _ _ _ _ => N9)
  dsimp only
  refine execsG_leaf (appendL ?_)
  k_steps
  refine ⟨E, _, nE, rfl, N9.get (.tail _ (.tail _ (.head _))), ?_⟩
  k_steps
  have hsl : (svs ++ (rvs ++ [Value.int 0 k4])).length = (stream ++ (KBw.bInts r ++ [0])).length := by
    simp only [List.length_append, hS.length, hri.length, List.length_singleton]
  refine Calls.call_len_list (isL_of (N9.get (.tail _ (.head _)))) (by
    rw [List.size_toArray, hsl]; simp only [List.length_append, KBw.ints_length, List.length_singleton]; omega) ?_
  rw [List.size_toArray, hsl]
  refine ⟨evs, nE, N9.get (.tail _ (.tail _ (.head _))), by rw [hE.length]; omega, fun h10 hs10 hE10 => ?_⟩
  obtain ⟨F11, N11⟩ := led_upd (pre := [(I, oI), (S, lo (svs ++ (rvs ++ [Value.int 0 k4])) n7)]) (post := fro) F9 N9 (by
    simp
    exact ⟨Ne.symm hEI, hSE⟩) hfE hs10 hE10
  repeat refine execsG_nil ?_
  refine hQ h10 _ _ _ _ n7 (nE + 1) (KBw.bInts r) F11 ?_ N11 hEnc (fun x hx => KBw.ints_in hx) (intsAre_append hS (intsAre_snoc hri)) (intsAre_snoc hE)
  intro y hy
  by_cases h1 : y = Str.ofString "stream"
  · subst h1
    exact e1.symm
  · by_cases h2 : y = Str.ofString "ends"
    · subst h2
      exact e2.symm
    · simp only [if_neg h1, if_neg h2, if_neg hy]
end Mine

end

section
namespace Mine
inductive EncAll : List (List Int) → List (List Int) → Prop
  | nil : EncAll [] []
  | cons {ps rs : List Int} {pss rss : List (List Int)} : Enc ps rs → EncAll pss rss → EncAll (ps :: pss) (rs :: rss)
theorem EncAll.snoc {pss rss : List (List Int)} {ps rs : List Int} (h : EncAll pss rss) (h' : Enc ps rs) : EncAll (pss ++ [ps]) (rss ++ [rs]) := by
  induction h with
  | nil => exact .cons h' .nil
  | cons h1 _ ih => exact .cons h1 ih
theorem EncAll.length {pss rss : List (List Int)} (h : EncAll pss rss) : rss.length = pss.length := by
  induction h with
  | nil => rfl
  | cons _ _ ih => simp [ih]
def streamOf (rss : List (List Int)) : List Int := (rss.map (· ++ [0])).flatten
theorem streamOf_nil : streamOf [] = [] := rfl
theorem streamOf_cons (rs : List Int) (rss : List (List Int)) : streamOf (rs :: rss) = (rs ++ [0]) ++ streamOf rss := rfl
theorem streamOf_append (a b : List (List Int)) : streamOf (a ++ b) = streamOf a ++ streamOf b := by simp [streamOf]
theorem streamOf_snoc (rss : List (List Int)) (rs : List Int) : streamOf (rss ++ [rs]) = streamOf rss ++ (rs ++ [0]) := by simp [streamOf]
def endsOf (rss : List (List Int)) : List Int := (List.range (rss.length + 1)).map fun k => ((streamOf (rss.take k)).length : Int)
theorem endsOf_nil : endsOf [] = [0] := rfl
theorem endsOf_snoc (rss : List (List Int)) (rs : List Int) : endsOf (rss ++ [rs]) = endsOf rss ++ [((streamOf rss ++ (rs ++ [0])).length : Int)] := by
  unfold endsOf
  rw [List.length_append, List.length_singleton, List.range_succ, List.map_append]
  congr 1
  · apply List.map_congr_left
    intro k hk
    have := List.mem_range.mp hk
    rw [List.take_append_of_le_length (by omega)]
  · simp only [List.map_cons, List.map_nil]
    rw [List.take_of_length_le (by simp), streamOf_snoc]
theorem EncAll.size {pss rss : List (List Int)} (h : EncAll pss rss) : (streamOf rss).length ≤ 2 * (pss.map List.length).sum + 2 * pss.length := by
  induction h with
  | nil => simp [streamOf]
  | cons h1 _ ih =>
    have := h1.size
    rw [streamOf_cons]
    simp only [List.length_append, List.length_cons, List.length_nil, List.map_cons, List.sum_cons] at *
    omega

/-! the receiver, row by row -/
theorem recvSt_from (l : List Int) : ∀ (tss : List (List Int)) (st : RS), l.foldl recvStep (tss, st) = (tss ++ (l.foldl recvStep ([], st)).1, (l.foldl recvStep ([], st)).2) := by
  induction l with
  | nil => intro tss st; simp
  | cons o l ih =>
    intro tss st
    simp only [List.foldl_cons]
    by_cases ho : o = 0
    · have e1 : recvStep (tss, st) o = (tss ++ [rfin st], RS.init) := by simp [recvStep, ho]
      have e2 : recvStep ([], st) o = ([rfin st], RS.init) := by simp [recvStep, ho]
      rw [e1, e2, ih, ih [rfin st]]
      simp
    · have e1 : recvStep (tss, st) o = (tss, rstep st o) := by simp [recvStep, ho]
      have e2 : recvStep ([], st) o = ([], rstep st o) := by simp [recvStep, ho]
      rw [e1, e2, ih]
theorem recv_row (l : List Int) (h : ∀ c ∈ l, c ≠ 0) : ∀ (tss : List (List Int)) (st : RS), l.foldl recvStep (tss, st) = (tss, rrun st l) := by
  induction l with
  | nil => intro tss st; rfl
  | cons o l ih =>
    intro tss st
    have ho : o ≠ 0 := h o (.head _)
    simp only [List.foldl_cons]
    have e1 : recvStep (tss, st) o = (tss, rstep st o) := by simp [recvStep, ho]
    rw [e1, ih (fun c hc => h c (.tail _ hc))]
    rfl
/-- a whole row and its nought -/
theorem recvOf_row (rs rest : List Int) (h : ∀ c ∈ rs, c ≠ 0) : recvOf (rs ++ [0] ++ rest) = rfin (rrun RS.init rs) :: recvOf rest := by
  unfold recvOf recvSt
  rw [List.foldl_append, List.foldl_append, recv_row rs h]
  have e : [(0 : Int)].foldl recvStep ([], rrun RS.init rs) = ([rfin (rrun RS.init rs)], RS.init) := by simp [recvStep]
  rw [e, recvSt_from]
  simp
theorem recvOf_none (rs : List Int) (h : ∀ c ∈ rs, c ≠ 0) : recvOf rs = [] := by unfold recvOf recvSt; rw [recv_row rs h]
/-- the packets come back -/
theorem recv_back {pss rss : List (List Int)} (h : EncAll pss rss) (rest : List Int) : recvOf (streamOf rss ++ rest) = pss ++ recvOf rest := by
  induction h with
  | nil => simp [streamOf]
  | cons h1 _ ih =>
    rw [streamOf_cons, List.append_assoc, recvOf_row _ _ h1.nz, h1.back, ih]
    rfl
theorem recv_stream {pss rss : List (List Int)} (h : EncAll pss rss) : recvOf (streamOf rss) = pss := by
  have := recv_back h []
  simpa [recvOf, recvSt] using this

/-- the rows of a stream, each read alone -/
theorem rowsSt_from (l : List Int) : ∀ (xss : List (List Int)) (cur : List Int), l.foldl rowsStep (xss, cur) = (xss ++ (l.foldl rowsStep ([], cur)).1, (l.foldl rowsStep ([], cur)).2) := by
  induction l with
  | nil => intro xss cur; simp
  | cons o l ih =>
    intro xss cur
    simp only [List.foldl_cons]
    by_cases ho : o = 0
    · have e1 : rowsStep (xss, cur) o = (xss ++ [cur], []) := by simp [rowsStep, ho]
      have e2 : rowsStep ([], cur) o = ([cur], []) := by simp [rowsStep, ho]
      rw [e1, e2, ih, ih [cur]]
      simp
    · have e1 : rowsStep (xss, cur) o = (xss, cur ++ [o]) := by simp [rowsStep, ho]
      have e2 : rowsStep ([], cur) o = ([], cur ++ [o]) := by simp [rowsStep, ho]
      rw [e1, e2, ih]
theorem rows_recv (l : List Int) : ∀ cur : List Int, (l.foldl recvStep ([], rrun RS.init cur)).1 = (l.foldl rowsStep ([], cur)).1.map fun row => rfin (rrun RS.init row) := by
  induction l with
  | nil => intro cur; rfl
  | cons o l ih =>
    intro cur
    simp only [List.foldl_cons]
    by_cases ho : o = 0
    · have e1 : recvStep ([], rrun RS.init cur) o = ([rfin (rrun RS.init cur)], RS.init) := by simp [recvStep, ho]
      have e2 : rowsStep ([], cur) o = ([cur], []) := by simp [rowsStep, ho]
      rw [e1, e2, recvSt_from, rowsSt_from]
      have := ih []
      rw [rrun_nil] at this
      simp [this]
    · have e1 : recvStep ([], rrun RS.init cur) o = ([], rrun RS.init (cur ++ [o])) := by simp [recvStep, ho, rrun_append, rrun_cons, rrun_nil]
      have e2 : rowsStep ([], cur) o = ([], cur ++ [o]) := by simp [rowsStep, ho]
      rw [e1, e2, ih]
theorem recv_rows (l : List Int) : recvOf l = (rowsOf l).map fun row => rfin (rrun RS.init row) := rows_recv l []
/-- the rows hold no nought, and are the stream's octets -/
theorem rows_mem (l : List Int) (Pp : Int → Prop) (hl : ∀ c ∈ l, Pp c) : ∀ (xss : List (List Int)) (cur : List Int), (∀ r ∈ xss, ∀ c ∈ r, c ≠ 0 ∧ Pp c) → (∀ c ∈ cur, c ≠ 0 ∧ Pp c) →
    (∀ r ∈ (l.foldl rowsStep (xss, cur)).1, ∀ c ∈ r, c ≠ 0 ∧ Pp c) := by
  induction l with
  | nil => intro xss cur h1 _; exact h1
  | cons o l ih =>
    intro xss cur h1 h2
    simp only [List.foldl_cons]
    by_cases ho : o = 0
    · have e1 : rowsStep (xss, cur) o = (xss ++ [cur], []) := by simp [rowsStep, ho]
      rw [e1]
      refine ih (fun c hc => hl c (.tail _ hc)) _ _ ?_ (fun c hc => nomatch hc)
      intro r hr
      rcases List.mem_append.mp hr with hr | hr
      · exact h1 r hr
      · rw [List.mem_singleton.mp hr]; exact h2
    · have e1 : rowsStep (xss, cur) o = (xss, cur ++ [o]) := by simp [rowsStep, ho]
      rw [e1]
      refine ih (fun c hc => hl c (.tail _ hc)) _ _ h1 ?_
      intro c hc
      rcases List.mem_append.mp hc with hc | hc
      · exact h2 c hc
      · rw [List.mem_singleton.mp hc]; exact ⟨ho, hl o (.head _)⟩
theorem rows_len (l : List Int) : ∀ (xss : List (List Int)) (cur : List Int) (k : Nat), (∀ r ∈ xss, r.length ≤ k) → cur.length + l.length ≤ k → (∀ r ∈ (l.foldl rowsStep (xss, cur)).1, r.length ≤ k) := by
  induction l with
  | nil => intro xss cur k h1 _; exact h1
  | cons o l ih =>
    intro xss cur k h1 h2
    simp only [List.foldl_cons]
    by_cases ho : o = 0
    · have e1 : rowsStep (xss, cur) o = (xss ++ [cur], []) := by simp [rowsStep, ho]
      rw [e1]
      refine ih _ _ k ?_ (by simp at h2 ⊢; omega)
      intro r hr
      rcases List.mem_append.mp hr with hr | hr
      · exact h1 r hr
      · rw [List.mem_singleton.mp hr]; omega
    · have e1 : rowsStep (xss, cur) o = (xss, cur ++ [o]) := by simp [rowsStep, ho]
      rw [e1]
      exact ih _ _ k h1 (by simp at h2 ⊢; omega)
theorem rows_count (l : List Int) : ∀ (xss : List (List Int)) (cur : List Int), (l.foldl rowsStep (xss, cur)).1.length ≤ xss.length + l.length := by
  induction l with
  | nil => intro xss cur; simp
  | cons o l ih =>
    intro xss cur
    simp only [List.foldl_cons]
    by_cases ho : o = 0
    · have e1 : rowsStep (xss, cur) o = (xss ++ [cur], []) := by simp [rowsStep, ho]
      rw [e1]
      have := ih (xss ++ [cur]) []
      simp at this ⊢; omega
    · have e1 : rowsStep (xss, cur) o = (xss, cur ++ [o]) := by simp [rowsStep, ho]
      rw [e1]
      have := ih xss (cur ++ [o])
      simp at this ⊢; omega
end Mine

end

section
open PySem PySem.W PyProof.Rows PySem.Calls
open PySem.Sem (wp)
set_option maxRecDepth 100000
set_option maxHeartbeats 8000000
set_option linter.unusedVariables false
namespace Mine
theorem allLt_mem {d : Nat} : ∀ {l : List (Addr × Obj)}, AllLt d l → ∀ p ∈ l, p.1 < d
  | [], _, _, h => nomatch h
  | _ :: _, x, p, h => by
    rcases List.mem_cons.mp h with rfl | h
    · exact x.1
    · exact allLt_mem x.2 p h
theorem tot_mem {pss : List (List Int)} {ps : List Int} (h : ps ∈ pss) : ps.length ≤ tot pss := by
  unfold tot
  induction pss with
  | nil => nomatch h
  | cons a t ih =>
    rcases List.mem_cons.mp h with rfl | h
    · simp
    · have := ih h; simp; omega
theorem tot_take (pss : List (List Int)) : ∀ k, tot (pss.take k) ≤ tot pss := by
  unfold tot
  induction pss with
  | nil => intro k; simp
  | cons a t ih =>
    intro k
    cases k with
    | zero => simp
    | succ k =>
      have := ih k
      simp only [List.take_succ_cons, List.map_cons, List.sum_cons]
      omega
theorem endsOf_length (rss : List (List Int)) : (endsOf rss).length = rss.length + 1 := by simp [endsOf]
theorem take_snocL {pss : List (List Int)} {i : Nat} {ps : List Int} (h : pss[i]? = some ps) : pss.take (i + 1) = pss.take i ++ [ps] := by rw [List.take_add_one, h]; rfl

/-- the stream as it stands behind the second loop -/
structure Sm (m : Str → Option Value) (led : List (Addr × Obj)) (S E : Addr) (svs evs : List Value) (nS nE : Nat) (pss rss : List (List Int)) : Prop where
  eS : m (Str.ofString "stream") = some (.ref S)
  eE : m (Str.ofString "ends") = some (.ref E)
  inS : (S, lo svs nS) ∈ led
  inE : (E, lo evs nE) ∈ led
  areS : IntsAre svs (streamOf rss)
  areE : IntsAre evs (endsOf rss)
  enc : EncAll pss rss
  oct : ∀ rs ∈ rss, Octs rs

theorem law_phase2 {w : World} {s : Shared} {b0 : Heap} {L fa nb P : Addr} {cd : Value} {oc : Obj} {ns : List Int} {nvs : List Value} {pss : List (List Int)} {led : List (Addr × Obj)} {m : Str → Option Value} {mean} {mg mb : Str → Option Value} {Q : Flow → Shared → Prop}
   (X : (hd.heap_39 w.params).In b0) (T : Top hd.view_39 (looseW hd.view_39 []) mean mg mb b0)
   (F : Fr b0 L s.heap m) (N : News b0 L s.heap led) (H : Pk L oc ns m led nb P nvs pss)
   (hK : ∀ h tk m' led' S E svs evs nS nE rss, Fr b0 L h m' → News b0 L h led' → (∀ p ∈ led, p ∈ led') → (∀ y, y ≠ Str.ofString "packet" → y ≠ Str.ofString "stream" → y ≠ Str.ofString "ends" → m' y = m y) → Sm m' led' S E svs evs nS nE pss rss →
      wpG (model PySem.Challenge.rw_nc0008_01.row.prog w) (callerA.deeper (lawEnv L fa cd)) (execs ((fnBody 7).drop 7) (lawEnv L fa cd)) Q { s with heap := h, toks := tk }) :
   wpG (model PySem.Challenge.rw_nc0008_01.row.prog w) (callerA.deeper (lawEnv L fa cd)) (execs ((fnBody 7).drop 4) (lawEnv L fa cd)) Q s := by
  revert X
  k_fill
  intro X
  have F := fr_known (x := Str.ofString "packets") F H.ePk
  refine execsG_leaf ?_
  k_steps
  refine execsG_leaf ?_
  k_steps
  dsimp only
  (with_reducible rename Fr _ _ _ _ => F4)
  (with_reducible rename News _ _ _ _ => N4)
  obtain ⟨as, nP, hP, hLL⟩ := H.inPk
  refine execsG_cons (forG ?_)
  k_steps
  rename_i S _ lS _ E _ lE _
  have N5 : News b0 L _ ((S, lo [] 0) :: (E, lo [Value.int 0 _] 0) :: led) := fun p hp => N4 p (by
    simp only [List.mem_cons] at hp ⊢
    rcases hp with h | h | h
    · exact .inr (.inl h)
    · exact .inl h
    · exact .inr (.inr h))
  have hSE : S ≠ E := Nat.ne_of_lt lE.1
  have hfS : ∀ p ∈ led, p.1 ≠ S := fun p hp => Nat.ne_of_lt (lS p hp)
  have hfE : ∀ p ∈ led, p.1 ≠ E := fun p hp => Nat.ne_of_lt (allLt_mem lE.2 p hp)
  have hPn : as.length = pss.length := hLL.length
  refine codeG_forList (b0 := b0) (l := P) (vs := as.map Value.ref) (n := nP) rfl rfl rfl F4 N5 (.tail _ (.tail _ hP))
    (fun i m₁ news₁ => ∃ (svs evs : List Value) (nS nE : Nat) (rss : List (List Int)), news₁ = (S, lo svs nS) :: (E, lo evs nE) :: led ∧
      m₁ (Str.ofString "stream") = some (.ref S) ∧ m₁ (Str.ofString "ends") = some (.ref E) ∧ (∀ y, y ≠ Str.ofString "packet" → y ≠ Str.ofString "stream" → y ≠ Str.ofString "ends" → m₁ y = m y) ∧
      EncAll (pss.take i) rss ∧ (∀ rs ∈ rss, Octs rs) ∧ IntsAre svs (streamOf rss) ∧ IntsAre evs (endsOf rss))
    ⟨[], [Value.int 0 _], 0, 0, [], rfl, rfl, rfl, ?_, .nil, fun _ h => (nomatch h), .nil, .cons _ _ .nil⟩ ?_ ?_
  · intro y h1 h2 h3
    simp only [if_neg h2, if_neg h3]
    split
    · rename_i h4; rw [h4, H.ePk]
    · rfl
  · clear F4 N4 N5
    rintro i v m₁ news₁ h tk I oI hv ⟨svs, evs, nS, nE, rss, rfl, e1, e2, hm, hEn, hO, hS, hE⟩ hmem hoff F N
    have hv' : (as.map Value.ref)[i]? = some v := hv
    rw [List.getElem?_map] at hv'
    obtain ⟨pa, hpa, rfl⟩ := Option.map_eq_some_iff.mp hv'
    obtain ⟨ps, hps, pvs, nPa, hpm, hpi⟩ := hLL.get hpa
    have hpsm : ps ∈ pss := List.mem_of_getElem? hps
    have hil := (List.getElem?_eq_some_iff.mp hps).1
    have hsz := hEn.size
    have htt : ((pss.take i).map List.length).sum ≤ 270 := Nat.le_trans (tot_take pss i) H.htot
    have hfew := H.hfew
    have hEl := hEn.length
    rw [List.length_take] at hsz hEl
    refine law2_turn X T F N e1 e2 hpm hpi (H.hocts _ hpsm) (Nat.le_trans (tot_mem hpsm) H.htot) hS hE (by omega) (by rw [endsOf_length]; omega) hSE (hoff _ (.head _)) (hoff _ (.tail _ (.head _))) hfS hfE
      fun h' tk' m₂ svs' evs' nS' nE' rs F' hm' N' hEn' hO' hS' hE' => ?_
    refine ⟨h', tk', m₂, _, rfl, F', N', (by
      intro p hp
      rcases List.mem_cons.mp hp with rfl | hp
      · exact hoff (S, lo svs nS) (.head _)
      · rcases List.mem_cons.mp hp with rfl | hp
        · exact hoff (E, lo evs nE) (.tail _ (.head _))
        · exact hoff _ (.tail _ (.tail _ hp))), .tail _ (.tail _ hP), svs', evs', nS', nE', rss ++ [rs], rfl, ?_, ?_, ?_, ?_, ?_, ?_, ?_⟩
    · rw [hm' _ (by decide), e1]
    · rw [hm' _ (by decide), e2]
    · intro y h1 h2 h3
      rw [hm' y h1, hm y h1 h2 h3]
    · rw [take_snocL hps]; exact hEn.snoc hEn'
    · intro r hr
      rcases List.mem_append.mp hr with hr | hr
      · exact hO r hr
      · rw [List.mem_singleton.mp hr]; exact hO'
    · rw [streamOf_snoc]; exact hS'
    · rw [endsOf_snoc]; exact hE'
  · clear F4 N4 N5
    rintro h tk m' news' F N hmem ⟨svs, evs, nS, nE, rss, rfl, e1, e2, hm, hEn, hO, hS, hE⟩
    rw [List.length_map, hPn, List.take_length] at hEn
    exact hK h tk m' _ S E svs evs nS nE rss F N (fun p hp => .tail _ (.tail _ hp)) hm ⟨e1, e2, .head _, .tail _ (.head _), hS, hE, hEn, hO⟩
end Mine

end

section
open PySem PySem.W PyProof.Rows PySem.Calls
open PySem.Sem (wp)
set_option maxRecDepth 100000
set_option maxHeartbeats 8000000
set_option linter.unusedVariables false
namespace Mine
section
variable {prog : Program} {w : World} {M : Model} {A : Around} {s : Shared} {env : Env}
theorem ifCmpG {l op r pos body orelse pos'} {Q : Flow → Shared → Prop}
    (h : wpG M A (eval l env) (fun a s₁ => wpAny M A (eval r env) (fun b s₂ => wpAny M A (compareOp op a b) (fun c s₃ => wpAny M A (truthy c)
      (fun b s₂ => if b then wpG M A (execs body env) Q s₂ else wpG M A (execs orelse env) Q s₂) noE s₃) noE s₂) noE s₁) s)
    (hm : behindInMarks op r = false := by with_unfolding_all rfl) :
    wpG M A (exec (.If (.Compare l [op] [r] pos) body orelse pos') env) Q s := fun Γ p hΓ g => by
  simp only [exec_If, Sem.wp_bind', Sem.wp_cmd_standAt, isTrue_Compare1, markedBehindIn_of_false hm, Sem.wp_holding, Sem.wp_operate]
  refine Sem.wp_mono M Γ _ (fun a p₁ s₁ h₁ => Sem.wp_mono M Γ _ (fun b _ s₂ h₂ => Sem.wp_mono M Γ _ (fun c p₃ s₃ h₃ => Sem.wp_mono M Γ _ (fun b p₂ s₂ h₂ => ?_)
    (fun _ _ _ h' => h') _ _ (h₃ Γ p₃ hΓ)) (fun _ _ _ h' => h') _ _ (h₂ Γ _ hΓ)) (fun _ _ _ h' => h') _ _ (h₁ Γ p₁ hΓ)) (fun _ _ _ h' => h') _ _ (h Γ _ hΓ g)
  cases b <;> exact h₂ Γ p₂ hΓ g
theorem forGG {target iter body orelse pos} {Q : Flow → Shared → Prop}
    (h : wpG M A (eval iter env) (fun x s₁ => wpAny M A (pyIter x) (fun it s₂ => codeG M A (.forLoop target it body orelse env) Q s₂) noE s₁) s)
    (hs : ∀ x, foldedSetIterable iter env x = pure x := by intro _; rfl) :
    wpG M A (exec (.For target iter body orelse pos) env) Q s := by
  rw [exec_For]
  refine wpG_bind (wpG_standAt (wpG_bind (wpG_mono h (fun x s₁ h₁ => ?_))))
  rw [hs x]
  refine wpG_bind (wpG_pure (wpG_bind (wpG_standAt (wpG_bindL (wpAny_holding (wpAny_mono h₁ (fun it s₂ h₂ => ?_) fun _ _ x => x))))))
  exact wpG_runOwn rfl h₂
theorem tryG {body orelse : List Stmt} {h₀ : ExceptHandler} {hs : List ExceptHandler} {pos : Pos} {Q : Flow → Shared → Prop}
    (h : wpG M A (execs body env) (fun f s₁ => match f with | .next => wpG M A (execs orelse env) Q s₁ | f => Q f s₁) s) :
    wpG M A (exec (.Try body (h₀ :: hs) orelse [] pos) env) Q s := by
  rw [arm_exec_Try]
  refine wpG_bind (wpG_standAt ?_)
  unfold tryStmt
  simp only [List.isEmpty_nil, if_true, List.isEmpty_cons, Bool.false_and, Bool.false_eq_true, if_false]
  refine wpG_bind (wpG_attempt (wpG_mono h (fun f s₁ h₁ => ?_)))
  cases f <;> first | exact h₁ | exact wpG_pure h₁
theorem appendLG {o e : PySem.Expr} {ap p3 p4 : Pos} {pl : Sem Bool} {Q : Flow → Shared → Prop}
    (h : wpAny (model prog w) A (eval o env) (fun ov s₁ => ∃ D vs n, ov = .ref D ∧ s₁.heap.get? D = some (lo vs n) ∧ wpG (model prog w) A (eval e env) (fun v s₂ => AppGoal D Q v s₂) s₁) noE s)
    (hi : interactive env = false := by rfl) (hs : swapsWith (.Call (.Attribute o "append" ap) [e] [] p3) none p4.line env = pure false := by rfl)
    (ht : backTo p3 (starEach [e] env) = [(false, eval e env)] := by rfl)
    (he : eval (.Call (.Attribute o "append" ap) [e] [] p3) env = (do
      let ov ← eval o env
      standAt ap.atName
      let (f, first) ← holding [ov] (getMethod ov "append" pl)
      callWith p3 f first (backTo p3 (starEach [e] env)) []) := by rfl) :
    wpG (model prog w) A (exec (.Expr (.Call (.Attribute o "append" ap) [e] [] p3) p4) env) Q s := by
  refine exprG ?_ hi hs
  refine methodG (pl := pl) (wpAny_mono h (fun ov s₁ h₁ => ?_) fun _ _ x => x) ht he
  obtain ⟨D, vs, n, rfl, hD, h₂⟩ := h₁
  refine Calls.getMethod_list_append hD rfl rfl ?_
  refine callWithG_builtin rfl (evalArgs1G (wpG_mono h₂ fun v s₂ h₃ => ?_))
  obtain ⟨vs', n', hD', hz, hf⟩ := h₃
  refine wpG_leaf (append_at hD' (fun h' hs' ho => ?_) (by rw [sizeLine_eq]; simp; omega))
  have : vs'.toArray.push v = (vs' ++ [v]).toArray := by simp
  rw [this] at ho
  exact hf h' hs' ho
end
/-- a list of lists of ints as data -/
def llD (xss : List (List Int)) : PyData := .list (xss.map fun xs => .list (xs.map .int))
theorem lls_reads {b0 h : Heap} {L : Addr} {led : List (Addr × Obj)} {as : List Addr} {xss : List (List Int)} (N : News b0 L h led) (H : LLs led as xss) : ∃ bs, ReadsAll h (as.map Value.ref) (xss.map fun xs => .list (xs.map .int)) bs := by
  induction H with
  | nil => exact ⟨_, .nil⟩
  | cons h1 _ ih =>
    obtain ⟨vs, n, hm, hi⟩ := h1
    obtain ⟨bs, ih⟩ := ih
    exact ⟨_, .cons (.list (N.get hm) rfl rfl (IntsAre.reads _ hi)) ih⟩
theorem ll_reads {b0 h : Heap} {L R : Addr} {led : List (Addr × Obj)} {xss : List (List Int)} (N : News b0 L h led) (H : LLIn led R xss) : ∃ bs, Reads h (.ref R) (llD xss) bs := by
  obtain ⟨as, n, hm, hl⟩ := H
  obtain ⟨bs, hr⟩ := lls_reads N hl
  exact ⟨_, .list (N.get hm) rfl rfl (by simpa using hr)⟩
theorem ints_can (xs : List Int) : PyData.canLayAll0 (xs.map .int) = true ∧ PyData.depthAll (xs.map .int) = 0 := by
  induction xs with
  | nil => exact ⟨rfl, rfl⟩
  | cons a t ih => simp [PyData.canLayAll0, PyData.canLay0, PyData.depthAll, PyData.depth, ih.1, ih.2]
theorem ll_can (xss : List (List Int)) : PyData.canLayAll0 (xss.map fun xs => .list (xs.map .int)) = true ∧ PyData.depthAll (xss.map fun xs => .list (xs.map .int)) ≤ 1 := by
  induction xss with
  | nil => exact ⟨rfl, Nat.zero_le _⟩
  | cons a t ih =>
    have h1 := ints_can a
    simp only [List.map_cons, PyData.canLayAll0, PyData.canLay0, PyData.depthAll, PyData.depth, ih.1, h1.1, h1.2, Bool.and_self, true_and]
    have := ih.2
    omega
theorem ll_shaped (xss : List (List Int)) : SeqAt.shaped (llD xss) = true := by
  unfold SeqAt.shaped llD
  have h := ll_can xss
  simp only [PyData.canLay0, PyData.depth, h.1, Bool.true_and]
  have := h.2
  exact decide_eq_true (by omega)
theorem cmp_ll {prog : Program} {w : World} {A : Around} {s : Shared} {b0 : Heap} {L R P : Addr} {led : List (Addr × Obj)} {xss : List (List Int)} {E : Value → Shared → Prop} {Q : Value → Shared → Prop} (N : News b0 L s.heap led)
    (hR : LLIn led R xss) (hP : LLIn led P xss) (h : Q (.bool false) s) (hu : A.units + 64 < cLine := by decide) : wpAny (model prog w) A (compareOp .NotEq (.ref R) (.ref P)) Q E s := by
  obtain ⟨_, r1⟩ := ll_reads N hR
  obtain ⟨_, r2⟩ := ll_reads N hP
  refine SeqAt.compareNe_shaped r1 r2 (ll_shaped xss) (ll_shaped xss) hu ?_
  rw [SeqAt.eqv_refl _ (SeqAt.canLay_of_shaped (ll_shaped xss))]
  exact h
end Mine

end

section
open PySem PySem.W PyProof.Rows PySem.Calls
open PySem.Sem (wp)
set_option maxRecDepth 100000
set_option maxHeartbeats 8000000
set_option linter.unusedVariables false
namespace Mine
theorem Pk.mono {L nb P : Addr} {oc : Obj} {ns : List Int} {m m' : Str → Option Value} {led led' : List (Addr × Obj)} {nvs : List Value} {pss : List (List Int)} (H : Pk L oc ns m led nb P nvs pss) (hs : ∀ p ∈ led, p ∈ led')
    (h1 : m' (Str.ofString "numbers") = m (Str.ofString "numbers")) (h2 : m' (Str.ofString "packets") = m (Str.ofString "packets")) : Pk L oc ns m' led' nb P nvs pss :=
  ⟨h1.trans H.eNb, hs _ H.inNb, H.areNb, h2.trans H.ePk, H.inPk.mono hs, H.hne, H.hfew, H.hocts, H.htot, hs _ H.inCell⟩
theorem Sm.mono {m m' : Str → Option Value} {led led' : List (Addr × Obj)} {S E : Addr} {svs evs : List Value} {nS nE : Nat} {pss rss : List (List Int)} (H : Sm m led S E svs evs nS nE pss rss) (hs : ∀ p ∈ led, p ∈ led')
    (h1 : m' (Str.ofString "stream") = m (Str.ofString "stream")) (h2 : m' (Str.ofString "ends") = m (Str.ofString "ends")) : Sm m' led' S E svs evs nS nE pss rss :=
  ⟨h1.trans H.eS, h2.trans H.eE, hs _ H.inS, hs _ H.inE, H.areS, H.areE, H.enc, H.oct⟩
theorem stream_le {L nb P : Addr} {oc : Obj} {ns : List Int} {m m' : Str → Option Value} {led led' : List (Addr × Obj)} {nvs : List Value} {pss rss : List (List Int)} {S E : Addr} {svs evs : List Value} {nS nE : Nat} (H : Pk L oc ns m led nb P nvs pss) (H' : Sm m' led' S E svs evs nS nE pss rss) : (streamOf rss).length ≤ 590 := by
  have h1 := H'.enc.size
  have h2 := H.htot
  have h3 := H.hfew
  unfold tot at h2
  omega
abbrev tupO (S P : Addr) : Obj := { cls := Value.type "tuple", data := Data.seq #[Value.ref S, Value.ref P] }
/-- one case: its octets and what is due -/
def CaseIn (led : List (Addr × Obj)) (t : Addr) : Prop := ∃ (S P : Addr) (svs : List Value) (nS : Nat) (octs : List Int), (t, tupO S P) ∈ led ∧ (S, lo svs nS) ∈ led ∧ IntsAre svs octs ∧ LLIn led P (recvOf octs) ∧ Octs octs ∧ octs.length ≤ 1000
theorem stream_octs {pss rss : List (List Int)} (h : ∀ rs ∈ rss, Octs rs) : Octs (streamOf rss) := by
  intro x hx
  obtain ⟨l, hl, hx⟩ := List.mem_flatten.mp hx
  obtain ⟨r, hr, rfl⟩ := List.mem_map.mp hl
  rcases List.mem_append.mp hx with hx | hx
  · exact h r hr x hx
  · rw [List.mem_singleton.mp hx]; decide
theorem law_units (L fa : Addr) (cd : Value) : (callerA.deeper (lawEnv L fa cd)).units + 64 < cLine := by
  show callerA.units + _ + 64 < cLine
  decide
theorem law_phase3 {w : World} {s : Shared} {b0 : Heap} {L fa nb P : Addr} {cd : Value} {oc : Obj} {ns : List Int} {nvs : List Value} {pss : List (List Int)} {led : List (Addr × Obj)} {m : Str → Option Value} {mean} {mg mb : Str → Option Value} {Q : Flow → Shared → Prop}
   {S E : Addr} {svs evs : List Value} {nS nE : Nat} {rss : List (List Int)}
   (X : (hd.heap_39 w.params).In b0) (T : Top hd.view_39 (looseW hd.view_39 []) mean mg mb b0)
   (F : Fr b0 L s.heap m) (N : News b0 L s.heap led) (H : Pk L oc ns m led nb P nvs pss) (HS : Sm m led S E svs evs nS nE pss rss)
   (hK : ∀ h tk m' fro C t, Fr b0 L h m' → News b0 L h ((C, lo [Value.ref t] 0) :: fro) → (∀ p ∈ led, p ∈ fro) → (∀ p ∈ fro, p.1 ≠ C) → (∀ y, y ≠ Str.ofString "cases" → m' y = m y) → m' (Str.ofString "cases") = some (.ref C) → CaseIn fro t →
      wpG (model PySem.Challenge.rw_nc0008_01.row.prog w) (callerA.deeper (lawEnv L fa cd)) (execs ((fnBody 7).drop 9) (lawEnv L fa cd)) Q { s with heap := h, toks := tk }) :
   wpG (model PySem.Challenge.rw_nc0008_01.row.prog w) (callerA.deeper (lawEnv L fa cd)) (execs ((fnBody 7).drop 7) (lawEnv L fa cd)) Q s := by
  revert X
  k_fill
  intro X
  have F := fr_known (x := Str.ofString "packets") (fr_known (x := Str.ofString "stream") F HS.eS) H.ePk
  obtain ⟨oF, fF, hoF, hfF⟩ : ∃ (o : Obj) (fd : FuncData), b0.get? 55 = some o ∧ o.data = .func fd := by
    refine' fn_ex X ?h
    case h => k_is
  refine execsG_cons (ifCmpG ?_)
  refine callNameG ?_
  k_steps
  refine callWithG_function (o := oF) (fd := fF) (wpG_leaf ?_)
  k_steps
  refine recv_call (fun a o e => F.keep _ _ (X a o e)) (T.keeps F.keep) (law_depth L fa cd) rfl (isL_of (N.get HS.inS)) HS.areS (by have := stream_le H HS; omega) fun R ents h' tk' hk he hR => ?_
  obtain ⟨F1, N1⟩ := led_ext F N hk
  have N2 := news_append (news_of_ents F he) N1
  clear F N N1
  rw [recv_stream HS.enc] at hR
  (try dsimp only)
  k_steps
  refine cmp_ll N2 (hR.mono fun p hp => List.mem_append_left _ hp) (H.inPk.mono fun p hp => List.mem_append_right _ hp) ?_ (law_units L fa cd)
  k_steps
  repeat refine execsG_nil ?_
  refine execsG_leaf ?_
  k_steps
  (with_reducible rename Fr _ _ _ _ => F4)
  (with_reducible rename News _ _ _ _ => N4)
  rename_i D _ lD C _ lC _
  have hsub : ∀ p ∈ led, p ∈ (D, tupO S P) :: (ents ++ led) := fun p hp => .tail _ (List.mem_append_right _ hp)
  refine hK _ _ _ ((D, tupO S P) :: (ents ++ led)) C D F4 N4 hsub ?_ ?_ rfl ?_
  · intro p hp
    rcases List.mem_cons.mp hp with rfl | hp
    · exact Nat.ne_of_lt lC.1
    · exact Nat.ne_of_lt (allLt_mem lC.2 p hp)
  · intro y hy
    simp only [if_neg hy]
    split
    · rename_i h4; rw [h4, H.ePk]
    · split
      · rename_i h4; rw [h4, HS.eS]
      · rfl
  · have := stream_le H HS
    exact ⟨S, P, svs, nS, _, .head _, hsub _ HS.inS, HS.areS, by rw [recv_stream HS.enc]; exact H.inPk.mono hsub, stream_octs (pss := pss) HS.oct, by omega⟩
end Mine

end

section
namespace Mine
theorem EncAll.take {pss rss : List (List Int)} (h : EncAll pss rss) : ∀ k, EncAll (pss.take k) (rss.take k) := by
  induction h with
  | nil => intro k; rw [List.take_nil]; exact .nil
  | cons h1 _ ih =>
    intro k
    cases k with
    | zero => exact .nil
    | succ k => exact .cons h1 (ih k)
theorem EncAll.drop {pss rss : List (List Int)} (h : EncAll pss rss) : ∀ k, EncAll (pss.drop k) (rss.drop k) := by
  induction h with
  | nil => intro k; rw [List.drop_nil]; exact .nil
  | cons h1 h2 ih =>
    intro k
    cases k with
    | zero => exact .cons h1 h2
    | succ k => exact ih k
def en (rss : List (List Int)) (k : Nat) : Nat := (streamOf (rss.take k)).length
theorem en_zero (rss : List (List Int)) : en rss 0 = 0 := rfl
theorem en_all (rss : List (List Int)) : en rss rss.length = (streamOf rss).length := by unfold en; rw [List.take_length]
theorem en_succ (rss : List (List Int)) (k : Nat) (h : k < rss.length) : en rss (k + 1) = en rss k + (rss[k]).length + 1 := by
  unfold en
  rw [List.take_succ_eq_append_getElem h, streamOf_snoc]
  simp
  omega
theorem en_mono (rss : List (List Int)) : ∀ {i j : Nat}, i ≤ j → en rss i ≤ en rss j := by
  intro i j h
  unfold en
  have : rss.take i = (rss.take j).take i := by rw [List.take_take]; congr 1; omega
  rw [this]
  conv => rhs; rw [← List.take_append_drop i (rss.take j), streamOf_append]
  simp
theorem en_le (rss : List (List Int)) (k : Nat) : en rss k ≤ (streamOf rss).length := by
  unfold en
  conv => rhs; rw [← List.take_append_drop k rss, streamOf_append]
  simp
theorem ends_get (rss : List (List Int)) (k : Nat) (h : k ≤ rss.length) : (endsOf rss)[k]? = some ((en rss k : Nat) : Int) := by
  unfold endsOf en
  rw [List.getElem?_map, List.getElem?_range (by omega)]
  rfl
theorem stream_split (rss : List (List Int)) (k : Nat) : streamOf rss = streamOf (rss.take k) ++ streamOf (rss.drop k) := by rw [← streamOf_append, List.take_append_drop]
theorem stream_take (rss : List (List Int)) (k : Nat) : (streamOf rss).take (en rss k) = streamOf (rss.take k) := by
  rw [stream_split rss k]; unfold en; rw [List.take_left']; rfl
theorem stream_drop (rss : List (List Int)) (k : Nat) : (streamOf rss).drop (en rss k) = streamOf (rss.drop k) := by
  rw [stream_split rss k]; unfold en; rw [List.drop_left']; rfl
theorem stream_end (rss : List (List Int)) (k : Nat) (h : k < rss.length) : (streamOf rss)[en rss (k + 1) - 1]? = some 0 := by
  have h1 := en_succ rss k h
  have h2 : (streamOf rss)[en rss (k + 1) - 1]? = ((streamOf rss).take (en rss (k + 1)))[en rss (k + 1) - 1]? := by
    rw [List.getElem?_take, if_pos (by omega)]
  rw [h2, stream_take, List.take_succ_eq_append_getElem h, streamOf_snoc]
  have h3 : en rss k = (streamOf (rss.take k)).length := rfl
  rw [← List.append_assoc, List.getElem?_append_right (by simp; omega)]
  have : en rss (k + 1) - 1 - (streamOf (rss.take k) ++ rss[k]).length = 0 := by simp; omega
  rw [this]; rfl
theorem between {f : Nat → Nat} {p : Nat} (h0 : f 0 ≤ p) : ∀ n, p < f n → ∃ k, k < n ∧ f k ≤ p ∧ p < f (k + 1) := by
  intro n
  induction n with
  | zero => intro h; omega
  | succ n ih =>
    intro h
    by_cases hn : p < f n
    · obtain ⟨k, h1, h2⟩ := ih hn
      exact ⟨k, by omega, h2⟩
    · exact ⟨n, by omega, by omega, h⟩
theorem own_is (rss : List (List Int)) (p : Nat) (h : p < (streamOf rss).length) :
    ∃ ow, ow < rss.length ∧ ((endsOf rss).filter fun e => decide (e ≤ (p : Int))).length = ow + 1 ∧ en rss ow ≤ p ∧ p < en rss (ow + 1) := by
  obtain ⟨ow, h1, h2, h3⟩ := between (f := en rss) (p := p) (Nat.zero_le _) rss.length (by rw [en_all]; exact h)
  refine ⟨ow, h1, ?_, h2, h3⟩
  unfold endsOf
  have e : rss.length + 1 = (ow + 1) + (rss.length - ow) := by omega
  rw [e, List.range_add, List.map_append, List.filter_append]
  have a1 : ((List.range (ow + 1)).map fun k => ((streamOf (rss.take k)).length : Int)).filter (fun e => decide (e ≤ (p : Int))) = (List.range (ow + 1)).map fun k => ((streamOf (rss.take k)).length : Int) := by
    rw [List.filter_eq_self]
    intro x hx
    obtain ⟨k, hk, rfl⟩ := List.mem_map.mp hx
    have := en_mono rss (i := k) (j := ow) (by have := List.mem_range.mp hk; omega)
    unfold en at this h2
    exact decide_eq_true (by omega)
  have a2 : (((List.range (rss.length - ow)).map (ow + 1 + ·)).map fun k => ((streamOf (rss.take k)).length : Int)).filter (fun e => decide (e ≤ (p : Int))) = [] := by
    rw [List.filter_eq_nil_iff]
    intro x hx
    obtain ⟨k, hk, rfl⟩ := List.mem_map.mp hx
    obtain ⟨k', hk', rfl⟩ := List.mem_map.mp hk
    have := en_mono rss (i := ow + 1) (j := ow + 1 + k') (by omega)
    unfold en at this h3
    simp only [decide_eq_true_eq]
    omega
  rw [a1, a2]
  simp
theorem recv_cut (x rest : List Int) : recvOf (x ++ [0] ++ rest) = recvOf (x ++ [0]) ++ recvOf rest := by
  unfold recvOf recvSt
  rw [List.foldl_append, List.foldl_append]
  generalize x.foldl recvStep ([], RS.init) = st
  obtain ⟨tss, st⟩ := st
  simp only [List.foldl_cons, List.foldl_nil, recvStep, if_true]
  rw [recvSt_from]
theorem recv_mid {pa pb A B : List (List Int)} {mid : List Int} (ha : EncAll pa A) (hb : EncAll pb B) (h : (∃ x, mid = x ++ [0]) ∨ B = []) : recvOf (streamOf A ++ mid ++ streamOf B) = pa ++ recvOf mid ++ pb := by
  rw [List.append_assoc, recv_back ha]
  rcases h with ⟨x, rfl⟩ | rfl
  · rw [recv_cut, recv_stream hb, List.append_assoc]
  · cases hb
    rw [streamOf_nil, List.append_nil, List.append_nil]
theorem spoil_law {pss rss : List (List Int)} (enc : EncAll pss rss) {p ow be : Nat} {old nw : Int} (hp : (streamOf rss)[p]? = some old) (h1 : en rss ow ≤ p) (h2 : p < en rss (ow + 1)) (how : ow < rss.length)
    (hb : (old ≠ 0 ∧ be = ow + 1) ∨ (old = 0 ∧ be = min (ow + 2) rss.length)) :
    recvOf ((streamOf rss).take p ++ [nw] ++ (streamOf rss).drop (p + 1)) =
      pss.take ow ++ recvOf ((((streamOf rss).take p ++ [nw] ++ (streamOf rss).drop (p + 1)).drop (en rss ow)).take (en rss be - en rss ow)) ++ pss.drop be := by
  have hpl := (List.getElem?_eq_some_iff.mp hp).1
  have hbe : ow + 1 ≤ be ∧ be ≤ rss.length := by omega
  have m1 := en_mono rss hbe.1
  have m2 := en_le rss be
  generalize hsp : (streamOf rss).take p ++ [nw] ++ (streamOf rss).drop (p + 1) = sp
  have hget : ∀ i, i ≠ p → sp[i]? = (streamOf rss)[i]? := by
    intro i hi
    rw [← hsp]
    by_cases h : i < p
    · rw [List.append_assoc, List.getElem?_append_left (by simp; omega), List.getElem?_take, if_pos h]
    · rw [List.getElem?_append_right (by simp; omega), List.getElem?_drop]
      congr 1
      simp
      omega
  have hlen : sp.length = (streamOf rss).length := by
    rw [← hsp]; simp; omega
  have e1 : sp.take (en rss ow) = streamOf (rss.take ow) := by
    rw [← stream_take]
    apply List.ext_getElem?
    intro i
    rw [List.getElem?_take, List.getElem?_take]
    split
    · exact hget i (by omega)
    · rfl
  have e2 : sp.drop (en rss be) = streamOf (rss.drop be) := by
    rw [← stream_drop]
    apply List.ext_getElem?
    intro i
    rw [List.getElem?_drop, List.getElem?_drop]
    exact hget _ (by omega)
  have e3 : sp = streamOf (rss.take ow) ++ (sp.drop (en rss ow)).take (en rss be - en rss ow) ++ streamOf (rss.drop be) := by
    rw [← e1, ← e2]
    have : sp.drop (en rss be) = (sp.drop (en rss ow)).drop (en rss be - en rss ow) := by rw [List.drop_drop]; congr 1; omega
    rw [this, List.append_assoc, List.take_append_drop, List.take_append_drop]
  conv => lhs; rw [e3]
  refine recv_mid (enc.take ow) (enc.drop be) ?_
  by_cases hlast : p = en rss be - 1
  · right
    have hz := stream_end rss (be - 1) (by omega)
    rw [show be - 1 + 1 = be from by omega, ← hlast, hp] at hz
    have hz := Option.some.inj hz
    rcases hb with ⟨h, _⟩ | ⟨_, hbb⟩
    · exact absurd hz h
    · have : be = rss.length := by
        by_cases h : ow + 2 ≤ rss.length
        · have hb2 : be = ow + 2 := by omega
          have := en_succ rss (ow + 1) (by omega)
          rw [hb2, show ow + 2 = ow + 1 + 1 from rfl] at hlast
          omega
        · omega
      rw [this, List.drop_length]
  · left
    have hz := stream_end rss (be - 1) (by omega)
    rw [show be - 1 + 1 = be from by omega] at hz
    rw [← hget _ (Ne.symm hlast)] at hz
    generalize hq : (sp.drop (en rss ow)).take (en rss be - en rss ow) = q
    have hql : q.length = en rss be - en rss ow := by rw [← hq]; simp; omega
    have hqz : q[q.length - 1]? = some 0 := by
      rw [hql, ← hq, List.getElem?_take, if_pos (by omega), List.getElem?_drop]
      rw [← hz]; congr 1; omega
    have hqne : q ≠ [] := by intro h; rw [h] at hqz; cases hqz
    refine ⟨q.dropLast, ?_⟩
    have hgl : q.getLast hqne = 0 := by
      rw [List.getLast_eq_getElem]
      have := List.getElem?_eq_some_iff.mp hqz
      exact this.2
    rw [← hgl]; exact (List.dropLast_concat_getLast hqne).symm
theorem spoil_mem {st : List Int} {p : Nat} {nw : Int} (P : Int → Prop) (h : ∀ x ∈ st, P x) (hn : P nw) : ∀ x ∈ st.take p ++ [nw] ++ st.drop (p + 1), P x := by
  intro x hx
  rcases List.mem_append.mp hx with hx | hx
  · rcases List.mem_append.mp hx with hx | hx
    · exact h x (List.mem_of_mem_take hx)
    · rw [List.mem_singleton.mp hx]; exact hn
  · exact h x (List.mem_of_mem_drop hx)
end Mine

end

section
open PySem PySem.W PyProof.Rows PySem.Calls
open PySem.Sem (wp)
set_option maxRecDepth 100000
set_option maxHeartbeats 8000000
set_option linter.unusedVariables false
namespace Mine
section
variable {prog : Program} {w : World} {A : Around} {s : Shared} {env : Env} {b0 : Heap} {L : Addr} {m : Str → Option Value} {news : List (Addr × Obj)}
theorem led_above (F : Fr b0 L s.heap m) (N : News b0 L s.heap news) {h' : Heap} {D : Addr} {o : Obj} (hD : s.heap.objs.size ≤ D) (hk : ∀ b o, s.heap.get? b = some o → h'.get? b = some o) (ho : h'.get? D = some o) :
    Fr b0 L h' m ∧ News b0 L h' ((D, o) :: news) ∧ ∀ p ∈ news, p.1 < D := by
  obtain ⟨F2, N2⟩ := led_ext F N hk
  refine ⟨F2, ?_, fun p hp => Nat.lt_of_lt_of_le (Heap.lt_size (N p hp).1) hD⟩
  refine news_append (xs := [(D, o)]) (news_of_ents F fun p hp => ?_) N2
  rw [List.mem_singleton.mp hp]
  refine ⟨ho, ?_⟩
  cases hq : s.heap.get? D with
  | none => rfl
  | some q => exact absurd (Heap.lt_size hq) (Nat.not_lt.mpr hD)
theorem clip_of {len : Nat} {x : Int} (h0 : 0 ≤ x) (h1 : x ≤ len) : clipAt len x = x.toNat := by
  obtain ⟨k, rfl⟩ := Int.eq_ofNat_of_zero_le h0
  rw [clipAt_nat, Int.toNat_natCast]
  omega
theorem sliceG {l : Addr} {vs : List Value} {n : Nat} {vl vu : Value} {lo' hi : Option Int} {Q : Value → Shared → Prop} (F : Fr b0 L s.heap m) (N : News b0 L s.heap news) (hl : (l, lo vs n) ∈ news) (pl : IsPart vl lo') (pu : IsPart vu hi) (a b : Nat)
    (ha : lo'.elim 0 (clipAt vs.length) = a) (hb : hi.elim vs.length (clipAt vs.length) = b) (hz : vs.length ≤ 100000)
    (h : ∀ h' D, Fr b0 L h' m → News b0 L h' ((D, lo ((vs.drop a).take (b - a)) 0) :: news) → (∀ p ∈ news, p.1 < D) → Q (.ref D) { s with heap := h' }) : SliceGoal (.ref l) vl vu Q s := by
  refine ⟨l, vs, lo', hi, rfl, isL_of (N.get hl), by omega, pl, pu, fun h' hk hnew => ?_⟩
  rw [ha, hb] at hnew
  obtain ⟨F2, N2, lt⟩ := led_above F N (Nat.le_succ _) hk hnew
  exact h h' _ F2 N2 lt
theorem addG {x y : Addr} {vs ws : List Value} {n k : Nat} {E : Value → Shared → Prop} {Q : Value → Shared → Prop} (F : Fr b0 L s.heap m) (N : News b0 L s.heap news) (hx : (x, lo vs n) ∈ news) (hy : (y, lo ws k) ∈ news) (hz : vs.length + ws.length ≤ 100000)
    (h : ∀ h' D, Fr b0 L h' m → News b0 L h' ((D, lo (vs ++ ws) 0) :: news) → (∀ p ∈ news, p.1 < D) → Q (.ref D) { s with heap := h' }) : wpAny (model prog w) A (binaryOp .Add (.ref x) (.ref y)) Q E s := by
  refine P.add_list (N.get hx) (N.get hy) ?_ (by rw [sizeLine_eq]; simp; omega)
  have e6 : vs.toArray ++ ws.toArray = (vs ++ ws).toArray := by simp
  rw [e6]
  obtain ⟨F2, N2, lt⟩ := led_above F N (Nat.le_refl _) (h' := s.heap.push (lo (vs ++ ws) 0)) (fun b ob e => Heap.get?_push_of_some _ e) (Heap.get?_push_size _ rfl)
  exact h _ _ F2 N2 lt
end
end Mine

end

section

open PySem PySem.W PyProof.Rows PySem.Calls
open PySem.Sem (wp)
set_option maxRecDepth 100000
set_option maxHeartbeats 8000000
set_option linter.unusedVariables false
namespace Mine
def law3For : List Stmt := forBody (nth (fnBody 7) 9)
theorem intsAre_get {vs : List Value} {ns : List Int} (h : IntsAre vs ns) : ∀ {i : Nat} {x : Int}, ns[i]? = some x → ∃ t, vs[i]? = some (Value.int x t) := by
  induction h with
  | nil => intro i x h; cases h
  | cons n t _ ih =>
    intro i x h
    cases i with
    | zero => exact ⟨t, by cases h; rfl⟩
    | succ i => exact ih h
theorem law3_e {w : World} {s : Shared} {b0 : Heap} {L fa I P S E C : Addr} {cd : Value} {oc oI : Obj} {ns : List Int} {svs evs : List Value} {nS nE nP nC : Nat} {as ts : List Addr} {pss rss : List (List Int)} {fro : List (Addr × Obj)} {m : Str → Option Value} {mean} {mg mb : Str → Option Value} {Q : Flow → Shared → Prop}
   {pl old nw : Int} {ov : Option Value} {tp told to tb : Tok} {ow be : Nat} {Y : Addr} {yvs : List Value}
   (X : (hd.heap_39 w.params).In b0) (T : Top hd.view_39 (looseW hd.view_39 []) mean mg mb b0)
   (F : Fr b0 L s.heap m) (N : News b0 L s.heap ((I, oI) :: (L + 1, oc) :: (C, lo (ts.map Value.ref) nC) :: fro))
   (hoc : oc.data = .cell ov) (e5 : m (Str.ofString "old") = some (.int old told)) (e6 : m (Str.ofString "spoilt") = some (.ref Y)) (inY : (Y, lo yvs 0) ∈ fro) (areY : IntsAre yvs ((streamOf rss).take pl.toNat ++ [nw] ++ (streamOf rss).drop (pl.toNat + 1))) (hp0 : 0 ≤ pl) (hp1 : pl < ((streamOf rss).length : Int)) (hold : (streamOf rss)[pl.toNat]? = some old) (e7 : m (Str.ofString "own") = some (.int (ow : Int) to)) (e8 : m (Str.ofString "behind") = some (.int (be : Int) tb)) (how : ow < rss.length) (h1 : en rss ow ≤ pl.toNat) (h2 : pl.toNat < en rss (ow + 1)) (hb : (old ≠ 0 ∧ be = ow + 1) ∨ (old = 0 ∧ be = min (ow + 2) rss.length)) (hn0 : 0 ≤ nw) (hn1 : nw < 256) (hno : nw ≠ old)
   (e1 : m (Str.ofString "packets") = some (.ref P)) (e2 : m (Str.ofString "stream") = some (.ref S)) (e3 : m (Str.ofString "ends") = some (.ref E)) (e4 : m (Str.ofString "cases") = some (.ref C))
   (inP : (P, lo (as.map Value.ref) nP) ∈ fro) (hLL : LLs fro as pss) (inS : (S, lo svs nS) ∈ fro) (inE : (E, lo evs nE) ∈ fro) (areS : IntsAre svs (streamOf rss)) (areE : IntsAre evs (endsOf rss))
   (enc : EncAll pss rss) (oct : ∀ rs ∈ rss, Octs rs) (hz : (streamOf rss).length ≤ 590) (hfew : pss.length ≤ 25) (hne : pss ≠ []) (hts : ts.length ≤ 100)
   (hLI : L + 1 ≠ I) (hCI : C ≠ I) (hLC : L + 1 ≠ C) (hfC : ∀ p ∈ fro, p.1 ≠ C) (hfL : ∀ p ∈ fro, p.1 ≠ L + 1) (hfI : ∀ p ∈ fro, p.1 ≠ I)
   (hQ : ∀ h' tk' m₂ oc' ov' t fro', Fr b0 L h' m₂ → m₂ (Str.ofString "packets") = some (.ref P) → m₂ (Str.ofString "stream") = some (.ref S) → m₂ (Str.ofString "ends") = some (.ref E) → m₂ (Str.ofString "cases") = some (.ref C) → News b0 L h' ((I, oI) :: (L + 1, oc') :: (C, lo ((ts ++ [t]).map Value.ref) (nC + 1)) :: fro') →
     oc'.data = .cell ov' → (∀ p ∈ fro, p ∈ fro') → CaseIn fro' t → (∀ p ∈ fro', p.1 ≠ C) → (∀ p ∈ fro', p.1 ≠ L + 1) → (∀ p ∈ fro', p.1 ≠ I) → Q .next { s with heap := h', toks := tk' }) :
   wpG (model PySem.Challenge.rw_nc0008_01.row.prog w) (callerA.deeper (lawEnv L fa cd)) (execs (law3For.drop 6) (lawEnv L fa cd)) Q s := by
  revert X
  k_fill
  intro X
  have F := fr_known (x := Str.ofString "packets") (fr_known (x := Str.ofString "spoilt") (fr_known (x := Str.ofString "ends") (fr_known (x := Str.ofString "cases") (fr_known (x := Str.ofString "own") (fr_known (x := Str.ofString "behind") F e8) e7) e4) e3) e6) e1
  have hsl := areS.length
  have hel := areE.length
  have hyl := areY.length
  rw [endsOf_length, enc.length] at hel
  have hrl := enc.length
  obtain ⟨oF, fF, hoF, hfF⟩ : ∃ (o : Obj) (fd : FuncData), b0.get? 55 = some o ∧ o.data = .func fd := by
    refine' fn_ex X ?h
    case h => k_is
  refine execsG_cons (assignG ?_)
  refine callNameG ?_
  k_steps
  refine callWithG_function (o := oF) (fd := fF) (wpG_leaf ?_)
  refine sliceE ?_
  k_steps
  have hbe : ow + 1 ≤ be ∧ be ≤ rss.length := by omega
  obtain ⟨t1, g1⟩ := intsAre_get areE (ends_get rss ow (by omega))
  obtain ⟨t2, g2⟩ := intsAre_get areE (ends_get rss be (by omega))
  have m1 := en_mono rss hbe.1
  have m2 := en_le rss be
  have m3 := en_le rss ow
  have hlen : ((streamOf rss).take pl.toNat ++ [nw] ++ (streamOf rss).drop (pl.toNat + 1)).length = (streamOf rss).length := by simp; omega
  refine item_listL (isL_of (N.get (.tail _ (.tail _ (.tail _ inE))))) (by omega) (by omega) (by rw [Int.toNat_natCast]; exact g1) ?_
  k_steps
  refine item_listL (isL_of (N.get (.tail _ (.tail _ (.tail _ inE))))) (by omega) (by omega) (by rw [Int.toNat_natCast]; exact g2) ?_
  refine sliceG (a := en rss ow) (b := en rss be) F N (.tail _ (.tail _ (.tail _ inY))) (.int _ _) (.int _ _) (clip_of (by omega) (by omega)) (clip_of (by omega) (by omega)) (by omega) fun h3 D3 F3 N3 l3 => ?_
  clear F N
  refine ⟨⟨F3.keep _ _ hoF, hfF⟩, ?_⟩
  refine recv_call (fun a o e => F3.keep _ _ (X a o e)) (T.keeps F3.keep) (law_depth L fa cd) rfl (isL_of (N3.get (.head _))) (intsAre_take (intsAre_drop areY _) _) (by simp; omega) fun R ents h' tk' hk he hR => ?_
  obtain ⟨F4, N4⟩ := led_ext F3 N3 hk
  have lt4 : ∀ p ∈ ents, ∀ q ∈ (I, oI) :: (L + 1, oc) :: (C, lo (ts.map Value.ref) nC) :: fro, p.1 ≠ q.1 := by
    intro p hp q hq e
    have a1 := (he p hp).2
    rw [e, (N3.get (.tail _ hq) : _ = some q.2)] at a1
    cases a1
  have N5 : News b0 L h' ((I, oI) :: (L + 1, oc) :: (C, lo (ts.map Value.ref) nC) :: (ents ++ fro)) := fun p hp => by
    simp only [List.mem_cons, List.mem_append] at hp
    rcases hp with h | h | h | h | h
    · exact N4 p (.tail _ (h ▸ .head _))
    · exact N4 p (.tail _ (h ▸ .tail _ (.head _)))
    · exact N4 p (.tail _ (h ▸ .tail _ (.tail _ (.head _))))
    · exact news_of_ents F3 he p h
    · exact N4 p (.tail _ (.tail _ (.tail _ (.tail _ h))))
  clear F3 N3 N4
  dsimp only at F4 N5 ⊢
  k_steps
  (with_reducible rename Fr _ _ _ _ => F6)
  (with_reducible rename News _ _ _ _ => N6)
  dsimp only
  refine execsG_leaf (appendL ?_)
  k_steps
  refine ⟨C, _, nC, rfl, N6.get (.tail _ (.tail _ (.head _))), ?_⟩
  have hasl := hLL.length
  have hap : (P, lo (as.map Value.ref) nP) ∈ (I, oI) :: (L + 1, oc) :: (C, lo (ts.map Value.ref) nC) :: (ents ++ fro) := .tail _ (.tail _ (.tail _ (List.mem_append_right _ inP)))
  refine Tuple_ ?_
  refine args_cons ?_
  refine wpAny_Name (wpAny_loadName_local (v := .ref Y) (by with_unfolding_all rfl) (by with_unfolding_all rfl) F6.ns rfl ?_) (by decide)
  refine args_cons ?_
  refine wpAny_BinOp ?_
  refine wpAny_BinOp ?_
  refine sliceE ?_
  k_steps
  refine sliceG (a := 0) (b := ow) F6 N6 hap .none (.int _ _) rfl ((clip_of (by omega) (by simp; omega)).trans (Int.toNat_natCast _)) (by simp; omega) fun h7 D7 F7 N7 l7 => ?_
  clear F6 N6
  k_steps
  obtain ⟨rs, nR, hRm, hRL⟩ := hR
  have hrsl : rs.length ≤ 600 := by
    have q1 := hRL.length
    rw [recv_rows, List.length_map] at q1
    have q2 := rows_count ((((streamOf rss).take pl.toNat ++ [nw] ++ (streamOf rss).drop (pl.toNat + 1)).drop (en rss ow)).take (en rss be - en rss ow)) [] []
    change (rowsOf _).length ≤ _ at q2
    simp only [List.length_nil, Nat.zero_add] at q2
    rw [List.length_take, List.length_drop, hlen] at q2
    omega
  refine addG F7 N7 (.head _) (.tail _ (.tail _ (.tail _ (.tail _ (List.mem_append_left _ hRm))))) (by simp; omega) fun h8 D8 F8 N8 l8 => ?_
  clear F7 N7
  refine sliceE ?_
  k_steps
  refine sliceG (a := be) (b := as.length) F8 N8 (.tail _ (.tail _ hap)) (.int _ _) .none ((clip_of (by omega) (by simp; omega)).trans (Int.toNat_natCast _)) (by simp) (by simp; omega) fun h9 D9 F9 N9 l9 => ?_
  clear F8 N8
  refine addG F9 N9 (.tail _ (.head _)) (.head _) (by simp; omega) fun hA DA FA NA lA => ?_
  clear F9 N9
  refine args_nil ?_
  k_steps
  (with_reducible rename Fr _ _ _ _ => FB)
  (with_reducible rename News _ _ _ _ => NB)
  rename_i DT _ lT
  refine ⟨_, nC, NB.get (.tail _ (.tail _ (.tail _ (.tail _ (.tail _ (.tail _ (.tail _ (.head _)))))))), by simp; omega, fun hC' hsC hCC => ?_⟩
  have k7 : ∀ p ∈ (I, oI) :: (L + 1, oc) :: (C, lo (ts.map Value.ref) nC) :: (ents ++ fro), p.1 < D7 := l7
  have k8 : ∀ p ∈ (I, oI) :: (L + 1, oc) :: (C, lo (ts.map Value.ref) nC) :: (ents ++ fro), p.1 < D8 := fun p hp => l8 p (.tail _ hp)
  have k9 : ∀ p ∈ (I, oI) :: (L + 1, oc) :: (C, lo (ts.map Value.ref) nC) :: (ents ++ fro), p.1 < D9 := fun p hp => l9 p (.tail _ (.tail _ hp))
  have kA : ∀ p ∈ (I, oI) :: (L + 1, oc) :: (C, lo (ts.map Value.ref) nC) :: (ents ++ fro), p.1 < DA := fun p hp => lA p (.tail _ (.tail _ (.tail _ hp)))
  have mI : (I, oI) ∈ (I, oI) :: (L + 1, oc) :: (C, lo (ts.map Value.ref) nC) :: (ents ++ fro) := .head _
  have mL : (L + 1, oc) ∈ (I, oI) :: (L + 1, oc) :: (C, lo (ts.map Value.ref) nC) :: (ents ++ fro) := .tail _ (.head _)
  have mC : (C, lo (ts.map Value.ref) nC) ∈ (I, oI) :: (L + 1, oc) :: (C, lo (ts.map Value.ref) nC) :: (ents ++ fro) := .tail _ (.tail _ (.head _))
  have hoffE : ∀ p ∈ ents ++ fro, p.1 ≠ C ∧ p.1 ≠ L + 1 ∧ p.1 ≠ I := by
    intro p hp
    rcases List.mem_append.mp hp with hp | hp
    · exact ⟨lt4 p hp _ (.tail _ (.tail _ (.head _))), lt4 p hp _ (.tail _ (.head _)), lt4 p hp _ (.head _)⟩
    · exact ⟨hfC p hp, hfL p hp, hfI p hp⟩
  obtain ⟨FD, ND⟩ := led_upd (pre := [(DT, tupO Y DA), (DA, _), (D9, _), (D8, _), (D7, _), (I, oI), (L + 1, oc)]) (post := ents ++ fro) FB NB (by
    simp only [List.forall_mem_cons, List.not_mem_nil, false_implies, implies_true, and_true]
    exact ⟨Nat.ne_of_gt lT.2.2.2.2.2.2.1, Nat.ne_of_gt (kA _ mC), Nat.ne_of_gt (k9 _ mC), Nat.ne_of_gt (k8 _ mC), Nat.ne_of_gt (k7 _ mC), Ne.symm hCI, hLC⟩) (fun p hp => (hoffE p hp).1) hsC hCC
  clear FB NB
  repeat refine execsG_nil ?_
  have eAll : (List.take (ow - 0) (List.drop 0 (as.map Value.ref)) ++ rs.map Value.ref ++ List.take (as.length - be) (List.drop be (as.map Value.ref))) = (as.take ow ++ rs ++ as.drop be).map Value.ref := by
    rw [Nat.sub_zero, List.drop_zero, List.map_append, List.map_append, List.map_take, List.map_drop, List.take_of_length_le (i := as.length - be) (by simp)]
  rw [eAll] at ND
  have hsub : ∀ p ∈ ents ++ fro, p ∈ (DT, tupO Y DA) :: (DA, lo ((as.take ow ++ rs ++ as.drop be).map Value.ref) 0) :: (ents ++ fro) := fun p hp => .tail _ (.tail _ hp)
  refine hQ hC' _ _ oc ov DT ((DT, tupO Y DA) :: (DA, lo ((as.take ow ++ rs ++ as.drop be).map Value.ref) 0) :: (ents ++ fro)) FD rfl ?_ rfl rfl ?_ hoc (fun p hp => hsub p (List.mem_append_right _ hp)) ?_ ?_ ?_ ?_
  · exact e2
  · intro p hp
    refine ND p ?_
    simp only [List.mem_cons, List.mem_append, List.map_append, List.map_cons, List.map_nil, List.not_mem_nil, or_false] at hp ⊢
    rcases hp with h | h | h | h | h | h | h <;> simp [h]
  · refine ⟨Y, DA, yvs, 0, _, .head _, hsub _ (List.mem_append_right _ inY), areY, ?_, ?_, by omega⟩
    · rw [spoil_law enc hold h1 h2 how hb]
      refine ⟨as.take ow ++ rs ++ as.drop be, 0, .tail _ (.head _), ?_⟩
      exact LLs.append (LLs.append ((hLL.take ow).mono fun p hp => hsub _ (List.mem_append_right _ hp)) (hRL.mono fun p hp => hsub _ (List.mem_append_left _ hp))) ((hLL.drop be).mono fun p hp => hsub _ (List.mem_append_right _ hp))
    · exact spoil_mem _ (stream_octs (pss := pss) oct) ⟨hn0, hn1⟩
  · intro p hp
    rcases List.mem_cons.mp hp with rfl | hp
    · exact Nat.ne_of_gt lT.2.2.2.2.2.2.1
    · rcases List.mem_cons.mp hp with rfl | hp
      · exact Nat.ne_of_gt (kA _ mC)
      · exact (hoffE p hp).1
  · intro p hp
    rcases List.mem_cons.mp hp with rfl | hp
    · exact Nat.ne_of_gt lT.2.2.2.2.2.1
    · rcases List.mem_cons.mp hp with rfl | hp
      · exact Nat.ne_of_gt (kA _ mL)
      · exact (hoffE p hp).2.1
  · intro p hp
    rcases List.mem_cons.mp hp with rfl | hp
    · exact Nat.ne_of_gt lT.2.2.2.2.1
    · rcases List.mem_cons.mp hp with rfl | hp
      · exact Nat.ne_of_gt (kA _ mI)
      · exact (hoffE p hp).2.2
end Mine

end

section

open PySem PySem.W PyProof.Rows PySem.Calls
open PySem.Sem (wp)
set_option maxRecDepth 100000
set_option maxHeartbeats 8000000
set_option linter.unusedVariables false
namespace Mine
theorem law3_d {w : World} {s : Shared} {b0 : Heap} {L fa I P S E C : Addr} {cd : Value} {oc oI : Obj} {ns : List Int} {svs evs : List Value} {nS nE nP nC : Nat} {as ts : List Addr} {pss rss : List (List Int)} {fro : List (Addr × Obj)} {m : Str → Option Value} {mean} {mg mb : Str → Option Value} {Q : Flow → Shared → Prop}
   {pl old nw : Int} {ov : Option Value} {tp told to : Tok} {ow : Nat} {Y : Addr} {yvs : List Value}
   (X : (hd.heap_39 w.params).In b0) (T : Top hd.view_39 (looseW hd.view_39 []) mean mg mb b0)
   (F : Fr b0 L s.heap m) (N : News b0 L s.heap ((I, oI) :: (L + 1, oc) :: (C, lo (ts.map Value.ref) nC) :: fro))
   (hoc : oc.data = .cell ov) (e5 : m (Str.ofString "old") = some (.int old told)) (e6 : m (Str.ofString "spoilt") = some (.ref Y)) (inY : (Y, lo yvs 0) ∈ fro) (areY : IntsAre yvs ((streamOf rss).take pl.toNat ++ [nw] ++ (streamOf rss).drop (pl.toNat + 1))) (hp0 : 0 ≤ pl) (hp1 : pl < ((streamOf rss).length : Int)) (hold : (streamOf rss)[pl.toNat]? = some old) (e7 : m (Str.ofString "own") = some (.int (ow : Int) to)) (how : ow < rss.length) (h1 : en rss ow ≤ pl.toNat) (h2 : pl.toNat < en rss (ow + 1)) (hn0 : 0 ≤ nw) (hn1 : nw < 256) (hno : nw ≠ old)
   (e1 : m (Str.ofString "packets") = some (.ref P)) (e2 : m (Str.ofString "stream") = some (.ref S)) (e3 : m (Str.ofString "ends") = some (.ref E)) (e4 : m (Str.ofString "cases") = some (.ref C))
   (inP : (P, lo (as.map Value.ref) nP) ∈ fro) (hLL : LLs fro as pss) (inS : (S, lo svs nS) ∈ fro) (inE : (E, lo evs nE) ∈ fro) (areS : IntsAre svs (streamOf rss)) (areE : IntsAre evs (endsOf rss))
   (enc : EncAll pss rss) (oct : ∀ rs ∈ rss, Octs rs) (hz : (streamOf rss).length ≤ 590) (hfew : pss.length ≤ 25) (hne : pss ≠ []) (hts : ts.length ≤ 100)
   (hLI : L + 1 ≠ I) (hCI : C ≠ I) (hLC : L + 1 ≠ C) (hfC : ∀ p ∈ fro, p.1 ≠ C) (hfL : ∀ p ∈ fro, p.1 ≠ L + 1) (hfI : ∀ p ∈ fro, p.1 ≠ I)
   (hQ : ∀ h' tk' m₂ oc' ov' t fro', Fr b0 L h' m₂ → m₂ (Str.ofString "packets") = some (.ref P) → m₂ (Str.ofString "stream") = some (.ref S) → m₂ (Str.ofString "ends") = some (.ref E) → m₂ (Str.ofString "cases") = some (.ref C) → News b0 L h' ((I, oI) :: (L + 1, oc') :: (C, lo ((ts ++ [t]).map Value.ref) (nC + 1)) :: fro') →
     oc'.data = .cell ov' → (∀ p ∈ fro, p ∈ fro') → CaseIn fro' t → (∀ p ∈ fro', p.1 ≠ C) → (∀ p ∈ fro', p.1 ≠ L + 1) → (∀ p ∈ fro', p.1 ≠ I) → Q .next { s with heap := h', toks := tk' }) :
   wpG (model PySem.Challenge.rw_nc0008_01.row.prog w) (callerA.deeper (lawEnv L fa cd)) (execs (law3For.drop 5) (lawEnv L fa cd)) Q s := by
  revert X
  k_fill
  intro X
  have F := fr_known (x := Str.ofString "packets") (fr_known (x := Str.ofString "old") (fr_known (x := Str.ofString "own") F e7) e5) e1
  have hrl := enc.length
  have hasl := hLL.length
  have hold0 : 0 ≤ old := (stream_octs (pss := pss) oct old (List.mem_of_getElem? hold)).1
  refine execsG_leaf ?_
  k_steps
  · (with_reducible rename Fr _ _ _ _ => F1)
    (with_reducible rename News _ _ _ _ => N1)
    (with_reducible rename 0 < old => ho)
    exact law3_e (ns := ns) (tp := tp) (be := ow + 1) (svs := svs) (evs := evs) X T F1 N1 hoc rfl e6 inY areY hp0 hp1 hold rfl rfl how h1 h2 (.inl ⟨by omega, rfl⟩) hn0 hn1 hno rfl e2 e3 e4 inP hLL inS inE areS areE enc oct hz hfew hne hts hLI hCI hLC hfC hfL hfI hQ
  · refine Calls.call_len_list (isL_of (N.get (.tail _ (.tail _ (.tail _ inP))))) (by rw [List.size_toArray]; simp; omega) ?_
    have e9 : ((as.map Value.ref).toArray.size : Int) = (rss.length : Int) := by simp; omega
    rw [e9]
    (with_reducible rename ¬ 0 < old => ho)
    k_steps
    (with_reducible rename Fr _ _ _ _ => F1)
    (with_reducible rename News _ _ _ _ => N1)
    have e10 : (if (rss.length : Int) < (ow : Int) + 2 then (rss.length : Int) else (ow : Int) + 2) = ((min (ow + 2) rss.length : Nat) : Int) := by split <;> omega
    rw [e10] at F1
    exact law3_e (ns := ns) (tp := tp) (be := min (ow + 2) rss.length) (svs := svs) (evs := evs) X T F1 N1 hoc rfl e6 inY areY hp0 hp1 hold rfl rfl how h1 h2 (.inr ⟨by omega, rfl⟩) hn0 hn1 hno rfl e2 e3 e4 inP hLL inS inE areS areE enc oct hz hfew hne hts hLI hCI hLC hfC hfL hfI hQ
end Mine

end

section
open PySem PySem.W PyProof.Rows PySem.Calls
open PySem.Sem (wp)
set_option maxRecDepth 100000
set_option maxHeartbeats 8000000
set_option linter.unusedVariables false
namespace Mine
theorem law3_c {w : World} {s : Shared} {b0 : Heap} {L fa I P S E C : Addr} {cd : Value} {oc oI : Obj} {ns : List Int} {svs evs : List Value} {nS nE nP nC : Nat} {as ts : List Addr} {pss rss : List (List Int)} {fro : List (Addr × Obj)} {m : Str → Option Value} {mean} {mg mb : Str → Option Value} {Q : Flow → Shared → Prop}
   {pl old nw : Int} {tp told : Tok} {Y : Addr} {yvs : List Value}
   (X : (hd.heap_39 w.params).In b0) (T : Top hd.view_39 (looseW hd.view_39 []) mean mg mb b0)
   (F : Fr b0 L s.heap m) (N : News b0 L s.heap ((I, oI) :: (L + 1, oc) :: (C, lo (ts.map Value.ref) nC) :: fro))
   (hoc : oc.data = .cell (some (.int pl tp))) (e5 : m (Str.ofString "old") = some (.int old told)) (e6 : m (Str.ofString "spoilt") = some (.ref Y)) (inY : (Y, lo yvs 0) ∈ fro) (areY : IntsAre yvs ((streamOf rss).take pl.toNat ++ [nw] ++ (streamOf rss).drop (pl.toNat + 1))) (hp0 : 0 ≤ pl) (hp1 : pl < ((streamOf rss).length : Int)) (hold : (streamOf rss)[pl.toNat]? = some old) (hn0 : 0 ≤ nw) (hn1 : nw < 256) (hno : nw ≠ old)
   (e1 : m (Str.ofString "packets") = some (.ref P)) (e2 : m (Str.ofString "stream") = some (.ref S)) (e3 : m (Str.ofString "ends") = some (.ref E)) (e4 : m (Str.ofString "cases") = some (.ref C))
   (inP : (P, lo (as.map Value.ref) nP) ∈ fro) (hLL : LLs fro as pss) (inS : (S, lo svs nS) ∈ fro) (inE : (E, lo evs nE) ∈ fro) (areS : IntsAre svs (streamOf rss)) (areE : IntsAre evs (endsOf rss))
   (enc : EncAll pss rss) (oct : ∀ rs ∈ rss, Octs rs) (hz : (streamOf rss).length ≤ 590) (hfew : pss.length ≤ 25) (hne : pss ≠ []) (hts : ts.length ≤ 100)
   (hLI : L + 1 ≠ I) (hCI : C ≠ I) (hLC : L + 1 ≠ C) (hfC : ∀ p ∈ fro, p.1 ≠ C) (hfL : ∀ p ∈ fro, p.1 ≠ L + 1) (hfI : ∀ p ∈ fro, p.1 ≠ I)
   (hQ : ∀ h' tk' m₂ oc' ov' t fro', Fr b0 L h' m₂ → m₂ (Str.ofString "packets") = some (.ref P) → m₂ (Str.ofString "stream") = some (.ref S) → m₂ (Str.ofString "ends") = some (.ref E) → m₂ (Str.ofString "cases") = some (.ref C) → News b0 L h' ((I, oI) :: (L + 1, oc') :: (C, lo ((ts ++ [t]).map Value.ref) (nC + 1)) :: fro') →
     oc'.data = .cell ov' → (∀ p ∈ fro, p ∈ fro') → CaseIn fro' t → (∀ p ∈ fro', p.1 ≠ C) → (∀ p ∈ fro', p.1 ≠ L + 1) → (∀ p ∈ fro', p.1 ≠ I) → Q .next { s with heap := h', toks := tk' }) :
   wpG (model PySem.Challenge.rw_nc0008_01.row.prog w) (callerA.deeper (lawEnv L fa cd)) (execs (law3For.drop 4) (lawEnv L fa cd)) Q s := by
  revert X
  k_fill
  intro X
  have F := fr_known (x := Str.ofString "packets") (fr_known (x := Str.ofString "spoilt") (fr_known (x := Str.ofString "ends") (fr_known (x := Str.ofString "cases") (fr_known (x := Str.ofString "old") F e5) e4) e3) e6) e1
  have hsl := areS.length
  have hel := areE.length
  rw [endsOf_length, enc.length] at hel
  refine execsG_cons (assignG ?_)
  refine binopG ?_
  refine callNameG ?_
  k_steps
  refine callWithG_builtin rfl (evalArgs1G (wpG_leaf ?_))
  refine' ListComp_DC (K := ItemKind.int) (h₀ := b0) (L := L) (pz := fun e => decide (e ≤ pl)) (d := PyData.int) ?hh ?hclos ?hcell ?hkind ?hnames ?hx ?h ?hs
  case hh => with_unfolding_all rfl
  case hclos => with_unfolding_all rfl
  case hcell => decide
  case hkind => with_unfolding_all rfl
  case hnames => decide
  case hx => with_unfolding_all rfl
  case hs => intro _; with_unfolding_all rfl
  case h =>
    refine wpAny_Name (wpAny_loadName_local (by with_unfolding_all rfl) (by with_unfolding_all rfl) F.ns rfl ?_) (by decide)
    refine ⟨E, evs, endsOf rss, rfl, isL_of (N.get (.tail _ (.tail _ (.tail _ inE)))), areE.areOf, by rw [endsOf_length, enc.length, sizeLine_eq]; omega, F, N, ?_, ?_, ?_⟩
    · intro Cc a v s₂ m₂ E' ha hv hn hmx hk
      obtain ⟨t, rfl⟩ := hv
      rw [List.forIn_cons]
      simp only [if_true]
      refine wpAny_bind (wpAny_bind (wpAny_isTrue_Compare1 ?_))
      refine ldVarK hn hmx ?_ (by with_unfolding_all rfl) (by with_unfolding_all rfl) (by decide)
      refine ldCellK (c := L + 1) (v := .int pl tp) (by with_unfolding_all rfl) ⟨oc, hk _ _ (N.get (.tail _ (.head _))), hoc⟩ ?_ (by with_unfolding_all rfl) (by with_unfolding_all rfl) (by decide)
      refine PySem.P.le_int (wpAny_truthy_bool (wpAny_pure ?_))
      show wpAny _ _ (forIn [] _ _) _ _ _
      exact wpAny_pure ⟨rfl, _, _, rfl, fun _ _ e => e⟩
    · intro Cc a v s₂ m₂ E' ha hv hpz hn hmx hk
      obtain ⟨t, rfl⟩ := hv
      refine ldVarK hn hmx ?_ (by with_unfolding_all rfl) (by with_unfolding_all rfl) (by decide)
      exact ⟨.int _ _, _, _, rfl, fun _ _ e => e⟩
    · intro D ys h' tk F1 N1 hD hys hca
      have hyl := hca.length_eq
      rw [List.length_map] at hyl
      have hyz : ((endsOf rss).filter fun e => decide (e ≤ pl)).length ≤ 26 := by
        have := List.length_filter_le (fun e => decide (e ≤ pl)) (endsOf rss)
        rw [endsOf_length, enc.length] at this
        omega
      refine wpG_leaf (Calls.call_len_list hys (by rw [List.size_toArray]; omega) ?_)
      rw [List.size_toArray, hyl]
      clear F N
      k_steps
      (with_reducible rename Fr _ _ _ _ => F2)
      (with_reducible rename News _ _ _ _ => N2)
      obtain ⟨ow, how, hcnt, h1, h2⟩ := own_is rss pl.toNat (by omega)
      rw [Int.toNat_of_nonneg hp0] at hcnt
      have e10 : (((endsOf rss).filter fun e => decide (e ≤ pl)).length : Int) - 1 = ((ow : Nat) : Int) := by rw [hcnt]; omega
      rw [e10] at F2
      exact law3_d (ns := ns) (tp := tp) (ow := ow) (svs := svs) (evs := evs) X T F2 N2 hoc rfl rfl inY areY hp0 hp1 hold rfl how h1 h2 hn0 hn1 hno rfl e2 rfl rfl inP hLL inS inE areS areE enc oct hz hfew hne hts hLI hCI hLC hfC hfL hfI hQ
end Mine

end

section
open PySem PySem.W PyProof.Rows PySem.Calls
open PySem.Sem (wp)
set_option maxRecDepth 100000
set_option maxHeartbeats 8000000
set_option linter.unusedVariables false
namespace Mine
theorem law3_b {w : World} {s : Shared} {b0 : Heap} {L fa I P S E C : Addr} {cd : Value} {oc oI : Obj} {ns : List Int} {svs evs : List Value} {nS nE nP nC : Nat} {as ts : List Addr} {pss rss : List (List Int)} {fro : List (Addr × Obj)} {m : Str → Option Value} {mean} {mg mb : Str → Option Value} {Q : Flow → Shared → Prop}
   {pl old nw : Int} {tp told tn : Tok}
   (X : (hd.heap_39 w.params).In b0) (T : Top hd.view_39 (looseW hd.view_39 []) mean mg mb b0)
   (F : Fr b0 L s.heap m) (N : News b0 L s.heap ((I, oI) :: (L + 1, oc) :: (C, lo (ts.map Value.ref) nC) :: fro))
   (hoc : oc.data = .cell (some (.int pl tp))) (e5 : m (Str.ofString "old") = some (.int old told)) (e6 : m (Str.ofString "new") = some (.int nw tn)) (hp0 : 0 ≤ pl) (hp1 : pl < ((streamOf rss).length : Int)) (hold : (streamOf rss)[pl.toNat]? = some old) (hn0 : 0 ≤ nw) (hn1 : nw < 256) (hno : nw ≠ old)
   (e1 : m (Str.ofString "packets") = some (.ref P)) (e2 : m (Str.ofString "stream") = some (.ref S)) (e3 : m (Str.ofString "ends") = some (.ref E)) (e4 : m (Str.ofString "cases") = some (.ref C))
   (inP : (P, lo (as.map Value.ref) nP) ∈ fro) (hLL : LLs fro as pss) (inS : (S, lo svs nS) ∈ fro) (inE : (E, lo evs nE) ∈ fro) (areS : IntsAre svs (streamOf rss)) (areE : IntsAre evs (endsOf rss))
   (enc : EncAll pss rss) (oct : ∀ rs ∈ rss, Octs rs) (hz : (streamOf rss).length ≤ 590) (hfew : pss.length ≤ 25) (hne : pss ≠ []) (hts : ts.length ≤ 100)
   (hLI : L + 1 ≠ I) (hCI : C ≠ I) (hLC : L + 1 ≠ C) (hfC : ∀ p ∈ fro, p.1 ≠ C) (hfL : ∀ p ∈ fro, p.1 ≠ L + 1) (hfI : ∀ p ∈ fro, p.1 ≠ I)
   (hQ : ∀ h' tk' m₂ oc' ov' t fro', Fr b0 L h' m₂ → m₂ (Str.ofString "packets") = some (.ref P) → m₂ (Str.ofString "stream") = some (.ref S) → m₂ (Str.ofString "ends") = some (.ref E) → m₂ (Str.ofString "cases") = some (.ref C) → News b0 L h' ((I, oI) :: (L + 1, oc') :: (C, lo ((ts ++ [t]).map Value.ref) (nC + 1)) :: fro') →
     oc'.data = .cell ov' → (∀ p ∈ fro, p ∈ fro') → CaseIn fro' t → (∀ p ∈ fro', p.1 ≠ C) → (∀ p ∈ fro', p.1 ≠ L + 1) → (∀ p ∈ fro', p.1 ≠ I) → Q .next { s with heap := h', toks := tk' }) :
   wpG (model PySem.Challenge.rw_nc0008_01.row.prog w) (callerA.deeper (lawEnv L fa cd)) (execs (law3For.drop 3) (lawEnv L fa cd)) Q s := by
  revert X
  k_fill
  intro X
  have F := fr_known (x := Str.ofString "packets") (fr_known (x := Str.ofString "stream") (fr_known (x := Str.ofString "ends") (fr_known (x := Str.ofString "cases") (fr_known (x := Str.ofString "old") (fr_known (x := Str.ofString "new") F e6) e5) e4) e3) e2) e1
  have hsl := areS.length
  refine execsG_leaf ?_
  refine wpAny_Assign_Name ?_
  refine wpAny_BinOp ?_
  refine wpAny_BinOp ?_
  refine sliceE ?_
  k_steps
  have iS : ∀ {x : List (Addr × Obj)}, (S, lo svs nS) ∈ x ++ ((I, oI) :: (L + 1, oc) :: (C, lo (ts.map Value.ref) nC) :: fro) := fun {x} => List.mem_append_right _ (.tail _ (.tail _ (.tail _ inS)))
  refine sliceG (a := 0) (b := pl.toNat) F N (iS (x := [])) .none (.int _ _) rfl (clip_of hp0 (by omega)) (by omega) fun h1 D1 F1 N1 l1 => ?_
  clear F N
  k_steps
  (with_reducible rename Fr _ _ _ _ => F2)
  (with_reducible rename News _ _ _ _ => N2)
  rename_i D2 _ l2
  refine addG F2 N2 (.tail _ (.head _)) (.head _) (by simp; omega) fun h3 D3 F3 N3 l3 => ?_
  clear F2 N2
  try clear F1 N1
  refine sliceE ?_
  k_steps
  refine sliceG (a := (pl + 1).toNat) (b := svs.length) F3 N3 (iS (x := [_, _, _])) (.int _ _) .none (clip_of (by omega) (by omega)) rfl (by omega) fun h4 D4 F4 N4 l4 => ?_
  clear F3 N3
  refine addG F4 N4 (.tail _ (.head _)) (.head _) (by simp; omega) fun h5 D5 F5 N5 l5 => ?_
  clear F4 N4
  k_steps
  (with_reducible rename Fr _ _ _ _ => F6)
  (with_reducible rename News _ _ _ _ => N6)
  dsimp only at F6 N6 l1 l2 l3 l4 l5 ⊢
  have hY : IntsAre (List.take (pl.toNat - 0) (List.drop 0 svs) ++ [Value.int nw tn] ++ List.take (svs.length - (pl + 1).toNat) (List.drop (pl + 1).toNat svs)) ((streamOf rss).take pl.toNat ++ [nw] ++ (streamOf rss).drop (pl.toNat + 1)) := by
    have q : (pl + 1).toNat = pl.toNat + 1 := by omega
    rw [Nat.sub_zero, List.drop_zero, q, List.take_of_length_le (i := svs.length - (pl.toNat + 1)) (by simp)]
    exact intsAre_append (intsAre_append (intsAre_take areS _) (.cons _ _ .nil)) (intsAre_drop areS _)
  have q5 : ∀ p ∈ (I, oI) :: (L + 1, oc) :: (C, lo (ts.map Value.ref) nC) :: fro, p.1 < D5 := fun p hp => l5 p (.tail _ (.tail _ (.tail _ (.tail _ hp))))
  generalize (List.take (pl.toNat - 0) (List.drop 0 svs) ++ [Value.int nw tn] ++ List.take (svs.length - (pl + 1).toNat) (List.drop (pl + 1).toNat svs)) = yvs at hY N6
  have N7 : News b0 L _ ((I, oI) :: (L + 1, oc) :: (C, lo (ts.map Value.ref) nC) :: (D5, lo yvs 0) :: fro) := fun p hp => N6 p (by
    simp only [List.mem_cons] at hp ⊢
    rcases hp with h | h | h | h | h <;> simp [h])
  refine law3_c (ns := ns) (svs := svs) (evs := evs) (fro := (D5, lo yvs 0) :: fro) X T F6 N7 hoc rfl rfl (.head _) hY hp0 hp1 hold hn0 hn1 hno rfl rfl rfl rfl (.tail _ inP) (hLL.mono fun p hp => .tail _ hp) (.tail _ inS) (.tail _ inE) areS areE enc oct hz hfew hne hts hLI hCI hLC ?_ ?_ ?_ ?_
  · intro p hp
    rcases List.mem_cons.mp hp with rfl | hp
    · exact Nat.ne_of_gt (q5 _ (.tail _ (.tail _ (.head _))))
    · exact hfC p hp
  · intro p hp
    rcases List.mem_cons.mp hp with rfl | hp
    · exact Nat.ne_of_gt (q5 _ (.tail _ (.head _)))
    · exact hfL p hp
  · intro p hp
    rcases List.mem_cons.mp hp with rfl | hp
    · exact Nat.ne_of_gt (q5 _ (.head _))
    · exact hfI p hp
  · intro h' tk' m₂ oc' ov' t fro' F' a1 a2 a3 a4 N' a5 a6
    exact hQ h' tk' m₂ oc' ov' t fro' F' a1 a2 a3 a4 N' a5 fun p hp => a6 p (.tail _ hp)
end Mine

end

section
open PySem PySem.W PyProof.Rows PySem.Calls
open PySem.Sem (wp)
set_option maxRecDepth 100000
set_option maxHeartbeats 8000000
set_option linter.unusedVariables false
namespace Mine
theorem law3_turn {w : World} {s : Shared} {b0 : Heap} {L fa I P S E C : Addr} {cd : Value} {oc oI : Obj} {ns : List Int} {svs evs : List Value} {nS nE nP nC : Nat} {as ts : List Addr} {pss rss : List (List Int)} {fro : List (Addr × Obj)} {m : Str → Option Value} {mean} {mg mb : Str → Option Value} {Q : Flow → Shared → Prop}
   {k : Int} {u : Tok} {ov : Option Value}
   (X : (hd.heap_39 w.params).In b0) (T : Top hd.view_39 (looseW hd.view_39 []) mean mg mb b0)
   (F : Fr b0 L s.heap (fun y => if y = Str.ofString "number" then some (.int k u) else m y)) (N : News b0 L s.heap ((I, oI) :: (L + 1, oc) :: (C, lo (ts.map Value.ref) nC) :: fro))
   (hoc : oc.data = .cell ov)
   (e1 : m (Str.ofString "packets") = some (.ref P)) (e2 : m (Str.ofString "stream") = some (.ref S)) (e3 : m (Str.ofString "ends") = some (.ref E)) (e4 : m (Str.ofString "cases") = some (.ref C))
   (inP : (P, lo (as.map Value.ref) nP) ∈ fro) (hLL : LLs fro as pss) (inS : (S, lo svs nS) ∈ fro) (inE : (E, lo evs nE) ∈ fro) (areS : IntsAre svs (streamOf rss)) (areE : IntsAre evs (endsOf rss))
   (enc : EncAll pss rss) (oct : ∀ rs ∈ rss, Octs rs) (hz : (streamOf rss).length ≤ 590) (hfew : pss.length ≤ 25) (hne : pss ≠ []) (hts : ts.length ≤ 100)
   (hLI : L + 1 ≠ I) (hCI : C ≠ I) (hLC : L + 1 ≠ C) (hfC : ∀ p ∈ fro, p.1 ≠ C) (hfL : ∀ p ∈ fro, p.1 ≠ L + 1) (hfI : ∀ p ∈ fro, p.1 ≠ I)
   (hQ : ∀ h' tk' m₂ oc' ov' t fro', Fr b0 L h' m₂ → m₂ (Str.ofString "packets") = some (.ref P) → m₂ (Str.ofString "stream") = some (.ref S) → m₂ (Str.ofString "ends") = some (.ref E) → m₂ (Str.ofString "cases") = some (.ref C) → News b0 L h' ((I, oI) :: (L + 1, oc') :: (C, lo ((ts ++ [t]).map Value.ref) (nC + 1)) :: fro') →
     oc'.data = .cell ov' → (∀ p ∈ fro, p ∈ fro') → CaseIn fro' t → (∀ p ∈ fro', p.1 ≠ C) → (∀ p ∈ fro', p.1 ≠ L + 1) → (∀ p ∈ fro', p.1 ≠ I) → Q .next { s with heap := h', toks := tk' }) :
   wpG (model PySem.Challenge.rw_nc0008_01.row.prog w) (callerA.deeper (lawEnv L fa cd)) (execs law3For (lawEnv L fa cd)) Q s := by
  revert X
  k_fill
  intro X
  have F := fr_known (x := Str.ofString "packets") (fr_known (x := Str.ofString "stream") (fr_known (x := Str.ofString "ends") (fr_known (x := Str.ofString "cases") F e4) e3) e2) e1
  have hsl := areS.length
  have hspos : 0 < (streamOf rss).length := by
    cases enc with
    | nil => exact absurd rfl hne
    | cons _ _ => rw [streamOf_cons]; simp; omega
  refine execsG_leaf ?_
  k_steps
  refine Calls.call_len_list (isL_of (N.get (.tail _ (.tail _ (.tail _ inS))))) (by rw [List.size_toArray]; omega) ?_
  rw [List.size_toArray, hsl]
  k_steps
  have hp0 := Int.fmod_nonneg_of_pos k (b := ((streamOf rss).length : Int)) (by omega)
  have hp1 := Int.fmod_lt_of_pos k (b := ((streamOf rss).length : Int)) (by omega)
  generalize hpl : (k.fmod ((streamOf rss).length : Int)) = pl at hp0 hp1 ⊢
  refine stCN (own := [(I, oI)]) (rest := (C, lo (ts.map Value.ref) nC) :: fro) F N rfl hoc (by
    intro p hp; rw [List.mem_singleton.mp hp]; exact Ne.symm hLI) (by
    intro p hp
    rcases List.mem_cons.mp hp with rfl | hp
    · exact Ne.symm hLC
    · exact hfL p hp) fun h2 oc2 F2 N2 hoc2 => ?_
  replace N2 : News b0 L h2 ((I, oI) :: (L + 1, oc2) :: (C, lo (ts.map Value.ref) nC) :: fro) := N2
  clear F N
  dsimp only at hoc2 ⊢
  refine execsG_leaf ?_
  k_steps
  have hplt : pl.toNat < (streamOf rss).length := by omega
  obtain ⟨old, hold⟩ : ∃ old, (streamOf rss)[pl.toNat]? = some old := ⟨_, List.getElem?_eq_getElem hplt⟩
  obtain ⟨told, hvold⟩ : ∃ told, svs[pl.toNat]? = some (Value.int old told) := by
    obtain ⟨k', t', hk', he'⟩ := IntsAre.at areS pl.toNat svs[pl.toNat] (List.getElem?_eq_getElem (by omega))
    rw [hold] at he'
    exact ⟨t', by rw [List.getElem?_eq_getElem (by omega), hk', Option.some.inj he']⟩
  refine item_listL (isL_of (N2.get (.tail _ (.tail _ (.tail _ inS))))) hp0 (by omega) hvold ?_
  k_steps
  refine execsG_leaf ?_
  k_steps
  (with_reducible rename Fr _ _ _ _ => F3)
  (with_reducible rename News _ _ _ _ => N3)
  refine Calls.call_len_list (isL_of (N3.get (.tail _ (.tail _ (.tail _ inS))))) (by rw [List.size_toArray]; omega) ?_
  rw [List.size_toArray, hsl]
  k_steps
  (with_reducible rename Fr _ _ _ _ => F4)
  (with_reducible rename News _ _ _ _ => N4)
  have q1 := Int.fmod_nonneg_of_pos (k.fdiv ((streamOf rss).length : Int)) (b := 255) (by decide)
  have q2 := Int.fmod_lt_of_pos (k.fdiv ((streamOf rss).length : Int)) (b := 255) (by decide)
  have ho := stream_octs (pss := pss) oct old (List.mem_of_getElem? hold)
  have g0 := Int.fmod_nonneg_of_pos (old + (k.fdiv ((streamOf rss).length : Int)).fmod 255 + 1) (b := 256) (by decide)
  have g1 := Int.fmod_lt_of_pos (old + (k.fdiv ((streamOf rss).length : Int)).fmod 255 + 1) (b := 256) (by decide)
  have g2 : (old + (k.fdiv ((streamOf rss).length : Int)).fmod 255 + 1).fmod 256 ≠ old := by
    rw [Int.fmod_eq_emod_of_nonneg _ (by decide)]
    omega
  exact law3_b (ns := ns) (svs := svs) (evs := evs) X T F4 N4 hoc2 rfl rfl hp0 hp1 hold g0 g1 g2 rfl rfl rfl rfl inP hLL inS inE areS areE enc oct hz hfew hne hts hLI hCI hLC hfC hfL hfI hQ
end Mine

end

section
open PySem PySem.W PyProof.Rows PySem.Calls
open PySem.Sem (wp)
set_option maxRecDepth 100000
set_option maxHeartbeats 8000000
set_option linter.unusedVariables false
namespace Mine
def noCell (p : Addr × Obj) : Bool := match p.2.data with | .cell _ => false | _ => true
theorem LIn.filt {e : List (Addr × Obj)} {a : Addr} {xs : List Int} (h : LIn e a xs) : LIn (e.filter noCell) a xs := let ⟨vs, n, h1, h2⟩ := h; ⟨vs, n, List.mem_filter.mpr ⟨h1, rfl⟩, h2⟩
theorem LLs.filt {e : List (Addr × Obj)} {as : List Addr} {xss : List (List Int)} (h : LLs e as xss) : LLs (e.filter noCell) as xss := by
  induction h with
  | nil => exact .nil
  | cons h1 _ ih => exact .cons h1.filt ih
theorem LLIn.filt {e : List (Addr × Obj)} {R : Addr} {xss : List (List Int)} (h : LLIn e R xss) : LLIn (e.filter noCell) R xss := let ⟨as, n, h1, h2⟩ := h; ⟨as, n, List.mem_filter.mpr ⟨h1, rfl⟩, h2.filt⟩
theorem CaseIn.filt {e : List (Addr × Obj)} {t : Addr} (h : CaseIn e t) : CaseIn (e.filter noCell) t :=
  let ⟨S, P, svs, nS, octs, h1, h2, h3, h4, h5⟩ := h
  ⟨S, P, svs, nS, octs, List.mem_filter.mpr ⟨h1, rfl⟩, List.mem_filter.mpr ⟨h2, rfl⟩, h3, h4.filt, h5⟩
theorem CaseIn.mono {e e' : List (Addr × Obj)} {t : Addr} (h : CaseIn e t) (hs : ∀ p ∈ e, p ∈ e') : CaseIn e' t :=
  let ⟨S, P, svs, nS, octs, h1, h2, h3, h4, h5⟩ := h
  ⟨S, P, svs, nS, octs, hs _ h1, hs _ h2, h3, h4.mono hs, h5⟩
/-- what stands behind the third loop -/
abbrev After3 (w : World) (L fa : Addr) (cd : Value) (b0 : Heap) (s : Shared) (Q : Flow → Shared → Prop) : Prop :=
  ∀ (h : Heap) (tk : Nat) (m' : Str → Option Value) (led' : List (Addr × Obj)) (C : Addr) (nC : Nat) (ts : List Addr), Fr b0 L h m' → News b0 L h led' → m' (Str.ofString "cases") = some (.ref C) → (C, lo (ts.map Value.ref) nC) ∈ led' → (∀ t ∈ ts, CaseIn led' t) → ts.length ≤ 30 →
      wpG (model PySem.Challenge.rw_nc0008_01.row.prog w) (callerA.deeper (lawEnv L fa cd)) (execs ((fnBody 7).drop 10) (lawEnv L fa cd)) Q { s with heap := h, toks := tk }
theorem law_loop3 {w : World} {s : Shared} {b0 : Heap} {L fa nb P C t D : Addr} {cd : Value} {oc : Obj} {ov : Option Value} {ns ds : List Int} {nvs dvs : List Value} {pss : List (List Int)} {led : List (Addr × Obj)} {m : Str → Option Value} {mean} {mg mb : Str → Option Value} {Q : Flow → Shared → Prop}
   {S E : Addr} {svs evs : List Value} {nS nE : Nat} {rss : List (List Int)} {nD : Nat} {px : Pos}
   (X : (hd.heap_39 w.params).In b0) (T : Top hd.view_39 (looseW hd.view_39 []) mean mg mb b0)
   (F : Fr b0 L s.heap m) (N : News b0 L s.heap ((C, lo [Value.ref t] 0) :: led)) (hfC : ∀ p ∈ led, p.1 ≠ C) (H : Pk L oc ns m led nb P nvs pss) (HS : Sm m led S E svs evs nS nE pss rss) (eC : m (Str.ofString "cases") = some (.ref C)) (hC : CaseIn led t)
   (hoc : oc.data = .cell ov) (hD : (D, lo dvs nD) ∈ led) (areD : IntsAre dvs ds) (hdl : ds.length ≤ 24)
   (hK : After3 w L fa cd b0 s Q) :
   wpAny (model PySem.Challenge.rw_nc0008_01.row.prog w) (callerA.deeper (lawEnv L fa cd)) (pyIter (.ref D)) (fun it s₂ => codeG (model PySem.Challenge.rw_nc0008_01.row.prog w) (callerA.deeper (lawEnv L fa cd)) (.forLoop (.Name (Str.ofString "number") px) it law3For [] (lawEnv L fa cd))
     (fun f s' => match f with | .next => wpG (model PySem.Challenge.rw_nc0008_01.row.prog w) (callerA.deeper (lawEnv L fa cd)) (execs ((fnBody 7).drop 10) (lawEnv L fa cd)) Q s' | f => Q f s') s₂) noE s := by
  have hLfil : ∀ p ∈ led.filter noCell, p.1 ≠ L + 1 := by
    intro p hp e
    obtain ⟨hp1, hp2⟩ := List.mem_filter.mp hp
    have q1 := (N p (.tail _ hp1)).1
    have q2 := (N _ (.tail _ H.inCell)).1
    rw [e, q2] at q1
    have := Option.some.inj q1
    unfold noCell at hp2
    rw [← this, hoc] at hp2
    cases hp2
  have hLC : L + 1 ≠ C := fun e => hfC _ H.inCell e
  have hDf : (D, lo dvs nD) ∈ led.filter noCell := List.mem_filter.mpr ⟨hD, rfl⟩
  have N1 : News b0 L s.heap ((L + 1, oc) :: (C, lo ([t].map Value.ref) 0) :: led.filter noCell) := fun p hp => by
    rcases List.mem_cons.mp hp with rfl | hp
    · exact N _ (.tail _ H.inCell)
    · rcases List.mem_cons.mp hp with rfl | hp
      · exact N _ (.head _)
      · exact N _ (.tail _ (List.mem_filter.mp hp).1)
  obtain ⟨as, nP, inP, hLL⟩ := H.inPk.filt
  have inS : (S, lo svs nS) ∈ led.filter noCell := List.mem_filter.mpr ⟨HS.inS, rfl⟩
  have inE : (E, lo evs nE) ∈ led.filter noCell := List.mem_filter.mpr ⟨HS.inE, rfl⟩
  have hz := stream_le H HS
  have hdv := areD.length
  refine codeG_forList (b0 := b0) (l := D) (vs := dvs) (n := nD) rfl rfl rfl F N1 (.tail _ (.tail _ hDf))
    (fun i m₁ news₁ => ∃ (oc' : Obj) (ov' : Option Value) (ts : List Addr) (nC : Nat) (fro' : List (Addr × Obj)), news₁ = (L + 1, oc') :: (C, lo (ts.map Value.ref) nC) :: fro' ∧ oc'.data = .cell ov' ∧
      (∀ p ∈ led.filter noCell, p ∈ fro') ∧ (∀ t ∈ ts, CaseIn fro' t) ∧ ts.length ≤ i + 1 ∧ m₁ (Str.ofString "packets") = some (.ref P) ∧ m₁ (Str.ofString "stream") = some (.ref S) ∧ m₁ (Str.ofString "ends") = some (.ref E) ∧ m₁ (Str.ofString "cases") = some (.ref C) ∧
      (∀ p ∈ fro', p.1 ≠ C) ∧ (∀ p ∈ fro', p.1 ≠ L + 1))
    ⟨oc, ov, [t], 0, _, rfl, hoc, fun p hp => hp, (fun t' ht' => by rw [List.mem_singleton.mp ht']; exact hC.filt), Nat.le_refl _, H.ePk, HS.eS, HS.eE, eC, fun p hp => hfC p (List.mem_filter.mp hp).1, hLfil⟩ ?_ ?_
  · rintro i v m₁ news₁ h tk I oI hv ⟨oc', ov', ts, nC, fro', rfl, hoc', hsub, hcs, hts, a1, a2, a3, a4, b1, b2⟩ hmem hoff F₁ N₁
    have hilt := (List.getElem?_eq_some_iff.mp hv).1
    obtain ⟨k, u, rfl, hk⟩ := IntsAre.at areD i v hv
    refine law3_turn (ns := ns) X T F₁ N₁ hoc' a1 a2 a3 a4 (hsub _ inP) (hLL.mono hsub) (hsub _ inS) (hsub _ inE) HS.areS HS.areE HS.enc HS.oct hz H.hfew H.hne (by omega) (hoff _ (.head _)) (hoff _ (.tail _ (.head _))) hLC b1 b2 (fun p hp => hoff p (.tail _ (.tail _ hp)))
      fun h' tk' m₂ oc₂ ov₂ t₂ fro₂ F₂ c1 c2 c3 c4 N₂ hoc₂ hsub₂ hct d1 d2 d3 => ?_
    refine ⟨h', tk', m₂, (L + 1, oc₂) :: (C, lo ((ts ++ [t₂]).map Value.ref) (nC + 1)) :: fro₂, rfl, F₂, N₂, ?_, .tail _ (.tail _ (hsub₂ _ (hsub _ hDf))), oc₂, ov₂, ts ++ [t₂], nC + 1, fro₂, rfl, hoc₂, fun p hp => hsub₂ _ (hsub _ hp), ?_, by simp; omega, c1, c2, c3, c4, d1, d2⟩
    · intro p hp
      rcases List.mem_cons.mp hp with rfl | hp
      · exact hoff (L + 1, oc') (.head _)
      · rcases List.mem_cons.mp hp with rfl | hp
        · exact hoff (C, lo (ts.map Value.ref) nC) (.tail _ (.head _))
        · exact d3 p hp
    · intro t' ht'
      rcases List.mem_append.mp ht' with ht' | ht'
      · exact (hcs t' ht').mono hsub₂
      · rw [List.mem_singleton.mp ht']; exact hct
  · rintro h tk m' news' F' N' hmem ⟨oc', ov', ts, nC, fro', rfl, hoc', hsub, hcs, hts, a1, a2, a3, a4, b1, b2⟩
    exact hK h tk m' _ C nC ts F' N' a4 (.tail _ (.head _)) (fun t' ht' => (hcs t' ht').mono fun p hp => .tail _ (.tail _ hp)) (by omega)
theorem law_phase5 {w : World} {s : Shared} {b0 : Heap} {L fa nb P C t : Addr} {cd : Value} {oc : Obj} {ov : Option Value} {ns : List Int} {nvs : List Value} {pss : List (List Int)} {led : List (Addr × Obj)} {m : Str → Option Value} {mean} {mg mb : Str → Option Value} {Q : Flow → Shared → Prop}
   {S E : Addr} {svs evs : List Value} {nS nE : Nat} {rss : List (List Int)} {r : Int} {tr : Tok}
   (X : (hd.heap_39 w.params).In b0) (T : Top hd.view_39 (looseW hd.view_39 []) mean mg mb b0)
   (F : Fr b0 L s.heap m) (N : News b0 L s.heap ((C, lo [Value.ref t] 0) :: led)) (hfC : ∀ p ∈ led, p.1 ≠ C) (H : Pk L oc ns m led nb P nvs pss) (HS : Sm m led S E svs evs nS nE pss rss) (eC : m (Str.ofString "cases") = some (.ref C)) (hC : CaseIn led t)
   (hoc : oc.data = .cell ov) (eR : m (Str.ofString "room") = some (.int r tr))
   (hK : After3 w L fa cd b0 s Q) :
   wpG (model PySem.Challenge.rw_nc0008_01.row.prog w) (callerA.deeper (lawEnv L fa cd)) (execs ((fnBody 7).drop 9) (lawEnv L fa cd)) Q s := by
  revert X
  k_fill
  intro X
  have F := fr_known (x := Str.ofString "numbers") (fr_known (x := Str.ofString "room") F eR) H.eNb
  refine execsG_cons (forG ?_)
  have hnl := H.areNb.length
  have h24 : nvs.length ≤ 24 := by rw [hnl, List.length_take]; omega
  have go : ∀ (s₁ : Shared) (D : Addr) (a : Nat) (h' : Heap) (m' : Str → Option Value), Fr b0 L h' m' → (∀ y, m' y = m y) → News b0 L h' ((D, lo ((nvs.drop a).take (nvs.length - a)) 0) :: (C, lo [Value.ref t] 0) :: led) → (∀ p ∈ (C, lo [Value.ref t] 0) :: led, p.1 < D) → ∀ tk,
      wpAny (model PySem.Challenge.rw_nc0008_01.row.prog w) (callerA.deeper (lawEnv L fa cd)) (pyIter (.ref D)) (fun it s₂ => codeG (model PySem.Challenge.rw_nc0008_01.row.prog w) (callerA.deeper (lawEnv L fa cd)) (.forLoop (.Name (Str.ofString "number") { line := 108, col := 8, endLine := 108, endCol := 14 }) it law3For [] (lawEnv L fa cd))
     (fun f s' => match f with | .next => wpG (model PySem.Challenge.rw_nc0008_01.row.prog w) (callerA.deeper (lawEnv L fa cd)) (execs ((fnBody 7).drop 10) (lawEnv L fa cd)) Q s' | f => Q f s') s₂) noE { s with heap := h', toks := tk } := by
    intro s₁ D a h' m' F' hm' N' l' tk
    have N'' : News b0 L h' ((C, lo [Value.ref t] 0) :: (D, lo ((nvs.drop a).take (nvs.length - a)) 0) :: led) := fun p hp => N' p (by
      simp only [List.mem_cons] at hp ⊢
      rcases hp with h | h | h <;> simp [h])
    have hs : ∀ p ∈ led, p ∈ (D, lo ((nvs.drop a).take (nvs.length - a)) 0) :: led := fun p hp => .tail _ hp
    refine law_loop3 (s := { s with heap := h', toks := tk }) X T F' N'' ?_ (H.mono hs (hm' _) (hm' _)) (HS.mono hs (hm' _) (hm' _)) ((hm' _).trans eC) (hC.mono hs) hoc (.head _) (intsAre_take (intsAre_drop H.areNb a) _) (by simp; omega) hK
    intro p hp
    rcases List.mem_cons.mp hp with rfl | hp
    · exact Nat.ne_of_gt (l' _ (.head _))
    · exact hfC p hp
  have hm0 : ∀ y, (if y = Str.ofString "numbers" then some (Value.ref nb) else if y = Str.ofString "room" then some (Value.int r tr) else m y) = m y := by
    intro y
    split
    · rename_i h; rw [h, H.eNb]
    · split
      · rename_i h; rw [h, eR]
      · rfl
  refine wpAny_IfExp ?_
  refine wpAny_isTrue_Compare1 ?_
  refine wpAny_Name (wpAny_loadName_local (v := .int r tr) (by with_unfolding_all rfl) (by with_unfolding_all rfl) F.ns rfl ?_) (by decide)
  refine wpAny_Constant_int ?_
  refine PySem.P.gt_int (wpAny_truthy_bool ?_)
  by_cases hr : 135 < r
  · rw [if_pos (by simpa using hr)]
    refine sliceE ?_
    k_steps
    refine sliceG (a := clipAt nvs.length (-2)) (b := nvs.length) F N (.tail _ H.inNb) (.int _ _) .none rfl rfl (by omega) fun h1 D1 F1 N1 l1 => ?_
    exact go s D1 _ h1 _ F1 hm0 N1 l1 _
  · rw [if_neg (by simpa using hr)]
    refine sliceE ?_
    k_steps
    refine sliceG (a := clipAt nvs.length (-1)) (b := nvs.length) F N (.tail _ H.inNb) (.int _ _) .none rfl rfl (by omega) fun h1 D1 F1 N1 l1 => ?_
    exact go s D1 _ h1 _ F1 hm0 N1 l1 _
end Mine

end

section
open PySem PySem.W PyProof.Rows PySem.Calls
open PySem.Sem (wp)
set_option maxRecDepth 100000
set_option maxHeartbeats 8000000
set_option linter.unusedVariables false
namespace Mine
section
variable {prog : Program} {w : World} {A : Around} {s : Shared} {env : Env} {R : Flow → Shared → Prop}
theorem codeG_forPairs {b0 : Heap} {x₁ x₂ : Str} {p₁ p₂ pt : Pos} {kt : Nat} {body : List Stmt} {l : Addr} {ts : List Addr} {n : Nat} {m : Str → Option Value} {news : List (Addr × Obj)}
    (hh : A.handled = none) (hx1 : env.kindOf x₁ = some .local) (hx2 : env.kindOf x₂ = some .local) (hp : (env.scope.kind == .class || (env.scope.kind == .module && env.locals != env.globals)) = false)
    (F : Fr b0 env.locals s.heap m) (N : News b0 env.locals s.heap news) (hl : (l, lo (ts.map Value.ref) n) ∈ news)
    (J : Nat → (Str → Option Value) → List (Addr × Obj) → Prop) (h0 : J 0 m news)
    (hT : ∀ i m₁ news₁, J i m₁ news₁ → (l, lo (ts.map Value.ref) n) ∈ news₁ ∧ ∀ t ∈ ts, ∃ a b, (t, tupO a b) ∈ news₁)
    (step : ∀ i t a b m₁ news₁ h tk I oI, ts[i]? = some t → (t, tupO a b) ∈ news₁ → J i m₁ news₁ → (∀ p ∈ news₁, p.1 ≠ I) → Fr b0 env.locals h (fun y => if y = x₂ then some (.ref b) else if y = x₁ then some (.ref a) else m₁ y) → News b0 env.locals h ((I, oI) :: news₁) →
      wpG (model prog w) A (execs body env) (TurnL b0 env.locals I oI (l, lo (ts.map Value.ref) n) (J (i + 1)) s R) { s with heap := h, toks := tk })
    (hR : ∀ h tk m' news', Fr b0 env.locals h m' → News b0 env.locals h news' → J ts.length m' news' → R .next { s with heap := h, toks := tk }) :
    wpAny (model prog w) A (pyIter (.ref l)) (fun it s₂ => codeG (model prog w) A (.forLoop (.Tuple [.Name x₁ p₁, .Name x₂ p₂] kt pt) it body [] env) R s₂) noE s := by
  have hls := isL_of (N.get hl)
  refine wpAny_pyIter_list hls ?_
  have hlL : l ≠ env.locals := (N _ hl).2.1
  have hne : l ≠ s.heap.objs.size := Nat.ne_of_lt (Heap.lt_size (N.get hl))
  have hI0 : b0.get? s.heap.objs.size = none := next_is_new F
  have hLlt := F.ns.lt
  have W := Walks.list (prog := prog) (w := w) (A := A) hh s.heap.objs.size l hne (ts.map Value.ref).toArray
  have esz : (ts.map Value.ref).toArray.size = ts.length := by simp
  rw [esz] at W
  have F0 := F.push (o := { cls := .type "list_iterator", data := .fields #[.ref l, .int 0 0] })
  have N0 : News b0 env.locals (s.heap.push { cls := .type "list_iterator", data := .fields #[.ref l, .int 0 0] }) news := fun p hp => ⟨Heap.get?_push_of_some _ (N p hp).1, (N p hp).2⟩
  have st0 : (s.heap.push { cls := .type "list_iterator", data := .fields #[.ref l, .int 0 0] }).IsListIter s.heap.objs.size l 0 ∧ (s.heap.push { cls := .type "list_iterator", data := .fields #[.ref l, .int 0 0] }).IsList l (ts.map Value.ref).toArray :=
    ⟨⟨_, Heap.get?_push_size _ rfl, rfl, rfl⟩, hls.at fun o e => Heap.get?_push_of_some _ e⟩
  have hnw0 : ∀ p ∈ news, p.1 ≠ s.heap.objs.size := fun p hp e => absurd (Heap.lt_size (N p hp).1) (e ▸ Nat.lt_irrefl _)
  have hLI : env.locals ≠ s.heap.objs.size := Nat.ne_of_lt hLlt
  generalize s.heap.objs.size = I at W hI0 st0 hnw0 hLI ⊢
  have hLf : env.locals ∉ [I, l] := by
    intro hm
    rcases List.mem_cons.mp hm with e | hm
    · exact hLI e
    · exact hlL (List.mem_singleton.mp hm).symm
  generalize s.heap.push { cls := .type "list_iterator", data := .fields #[.ref l, .int 0 0] } = hp0 at F0 N0 st0 ⊢
  have old : ∀ b o, b0.get? b = some o → b ∉ [I] := fun b o e hb => by rw [List.mem_singleton.mp hb, hI0] at e; cases e
  refine codeG_forLoop
    (fun k s' => ∃ h' tk m' news' i, s' = { s with heap := h', toks := tk } ∧ (h'.IsListIter I l i ∧ h'.IsList l (ts.map Value.ref).toArray) ∧ Fr b0 env.locals h' m' ∧ News b0 env.locals h' news' ∧ (∀ p ∈ news', p.1 ≠ I) ∧ J i m' news' ∧ i ≤ ts.length ∧ k = ts.length + 1 - i) ?_ (ts.length + 1)
    ⟨hp0, s.toks, m, news, 0, rfl, st0, F0, N0, hnw0, h0, Nat.zero_le _, rfl⟩
  rintro k s' ⟨h', tk, m', news', i, rfl, hst', F', N', hnw', hJ, hi, rfl⟩
  have next : ∀ h₁ : Heap, (∀ b o, b ∉ [I] → h'.get? b = some o → h₁.get? b = some o) → Fr b0 env.locals h₁ m' ∧ News b0 env.locals h₁ news' := fun h₁ hk₁ =>
    ⟨⟨F'.ns.at' fun o e => hk₁ _ o (fun q => hLI (List.mem_singleton.mp q)) e, fun b o e => hk₁ b o (old b o e) (F'.keep b o e), F'.above⟩,
      fun p hp => ⟨hk₁ _ _ (fun q => hnw' p hp (List.mem_singleton.mp q)) (N' p hp).1, (N' p hp).2⟩⟩
  by_cases hlt : i < ts.length
  · refine W.item i _ _ _ hlt hst' fun v h₁ tk₁ hP hst₁ hk₁ => ?_
    obtain ⟨F₁, N₁⟩ := next h₁ hk₁
    have hP' : (ts.map Value.ref)[i]? = some v := by simpa using hP
    rw [List.getElem?_map] at hP'
    obtain ⟨t, hti, rfl⟩ := Option.map_eq_some_iff.mp hP'
    obtain ⟨a, b, htm⟩ := (hT i m' news' hJ).2 t (List.mem_of_getElem? hti)
    refine wpAny_bind (wpAny_letOwnedTupleGo_listiter hst₁.1 ?_)
    refine assign_Tuple_tuple hh ⟨_, N₁.get htm, rfl, _, rfl⟩ rfl rfl fun h₂ hx₂ => ?_
    have hk₂ : ∀ b o, h₁.get? b = some o → h₂.get? b = some o := fun b o e => hx₂ b o (Nat.ne_of_lt (Heap.lt_size e)) e
    obtain ⟨F₂, N₂⟩ := led_ext F₁ N₁ hk₂
    have hst₂ := W.frame _ _ _ hst₁ fun b _ o e => hk₂ b o e
    refine assignInOrder_cons ?_
    refine wpAny_assign_Name (wpAny_storeName_local hx1 F₂.ns (fun h₃ hn₃ hs₃ => ?_) hp)
    have F₃ := F₂.set hn₃ hs₃
    have N₃ := N₂.set hs₃
    have hst₃ := W.frame _ _ _ hst₂ fun b hb o e => (hs₃.2 b fun q => hLf (q ▸ hb)).trans e
    refine assignInOrder_cons ?_
    refine wpAny_assign_Name (wpAny_storeName_local hx2 F₃.ns (fun h₄ hn₄ hs₄ => ?_) hp)
    have F₄ := F₃.set hn₄ hs₄
    have N₄ := N₃.set hs₄
    have hst₄ := W.frame _ _ _ hst₃ fun b hb o e => (hs₄.2 b fun q => hLf (q ▸ hb)).trans e
    refine assignInOrder_nil ?_
    obtain ⟨oI, hoI, _⟩ := id hst₄.1
    have N₅ : News b0 env.locals h₄ ((I, oI) :: news') := fun p hp => by
      rcases List.mem_cons.mp hp with rfl | hp
      · exact ⟨hoI, Ne.symm hLI, hI0⟩
      · exact N₄ p hp
    refine wpG_mono (step i t a b m' news' h₄ _ I oI hti htm hJ hnw' F₄ N₅) (fun f s₃ h₃ => ?_)
    have fin : (∃ h' tk' m₂ news₂, s₃ = { s with heap := h', toks := tk' } ∧ Fr b0 env.locals h' m₂ ∧ News b0 env.locals h' ((I, oI) :: news₂) ∧ (∀ p ∈ news₂, p.1 ≠ I) ∧ (l, lo (ts.map Value.ref) n) ∈ news₂ ∧ J (i + 1) m₂ news₂) →
        ∃ k', k' < ts.length + 1 - i ∧ ∃ h' tk m' news' i, s₃ = { s with heap := h', toks := tk } ∧ (h'.IsListIter I l i ∧ h'.IsList l (ts.map Value.ref).toArray) ∧ Fr b0 env.locals h' m' ∧ News b0 env.locals h' news' ∧ (∀ p ∈ news', p.1 ≠ I) ∧ J i m' news' ∧ i ≤ ts.length ∧ k' = ts.length + 1 - i := by
      rintro ⟨h₅, tk₅, m₂, news₂, rfl, F₅, N₅', ha₅, hm₅, hJ₅⟩
      refine ⟨ts.length + 1 - (i + 1), by omega, h₅, tk₅, m₂, news₂, i + 1, rfl, ?_, F₅, fun p hp => N₅' p (.tail _ hp), ha₅, hJ₅, hlt, rfl⟩
      refine W.frame _ _ _ hst₄ fun b hb o e => ?_
      rcases List.mem_cons.mp hb with hb | hb
      · subst hb
        rw [hoI] at e
        cases e
        exact (N₅' _ (.head _)).1
      · rw [List.mem_singleton.mp hb] at e ⊢
        have q1 := N₄.get (hT i m' news' hJ).1
        rw [q1] at e
        rw [N₅'.get (.tail _ hm₅), e]
    cases f with
    | ret v => exact h₃
    | brk => exact h₃
    | cont => exact fin h₃
    | next => exact fin h₃
  · have hin : i = ts.length := by omega
    subst hin
    refine W.done _ _ _ hst' fun h₁ tk₁ hk₁ => ?_
    obtain ⟨F₁, N₁⟩ := next h₁ hk₁
    exact hR h₁ tk₁ m' news' F₁ N₁ hJ
end
end Mine

end

section
open PySem PySem.W PyProof.Rows PySem.Calls
open PySem.Sem (wp)
set_option maxRecDepth 100000
set_option maxHeartbeats 8000000
set_option linter.unusedVariables false
namespace Mine
def law4For : List Stmt := forBody (nth (fnBody 7) 10)
def law4In : List Stmt := forBody (nth law4For 1)
theorem law4_in {w : World} {s : Shared} {b0 : Heap} {L fa I Z ra : Addr} {cd : Value} {oI : Obj} {tvs rvs : List Value} {nZ nr : Nat} {row : List Int} {fro : List (Addr × Obj)} {m : Str → Option Value} {mean} {mg mb : Str → Option Value} {Q : Flow → Shared → Prop}
   (X : (hd.heap_39 w.params).In b0) (T : Top hd.view_39 (looseW hd.view_39 []) mean mg mb b0)
   (F : Fr b0 L s.heap (fun y => if y = Str.ofString "row" then some (.ref ra) else m y)) (N : News b0 L s.heap ((I, oI) :: (Z, lo tvs nZ) :: fro))
   (e1 : m (Str.ofString "texts") = some (.ref Z)) (hra : (ra, lo rvs nr) ∈ fro) (hrv : IntsAre rvs row) (hO : Octs row) (hnz : ∀ c ∈ row, c ≠ 0) (hrl : row.length ≤ 1000) (hzt : tvs.length ≤ 10000)
   (hZI : Z ≠ I) (hfZ : ∀ p ∈ fro, p.1 ≠ Z) (hfI : ∀ p ∈ fro, p.1 ≠ I)
   (hQ : ∀ h' tk' m₂ D, Fr b0 L h' m₂ → (∀ y, y ≠ Str.ofString "row" → m₂ y = m y) → ∀ dvs nd, News b0 L h' ((I, oI) :: (Z, lo (tvs ++ [Value.ref D]) (nZ + 1)) :: (D, lo dvs nd) :: fro) →
     IntsAre dvs (rfin (rrun RS.init row)) → D ≠ Z → D ≠ I → (∀ p ∈ fro, p.1 < D) → Q .next { s with heap := h', toks := tk' }) :
   wpG (model PySem.Challenge.rw_nc0008_01.row.prog w) (callerA.deeper (lawEnv L fa cd)) (execs law4In (lawEnv L fa cd)) Q s := by
  revert X
  k_fill
  intro X
  have F := fr_known (x := Str.ofString "texts") F e1
  obtain ⟨oF, fF, hoF, hfF⟩ : ∃ (o : Obj) (fd : FuncData), b0.get? 41 = some o ∧ o.data = .func fd := by
    refine' fn_ex X ?h
    case h => k_is
  refine execsG_cons (tryG ?_)
  refine execsG_cons (appendLG ?_)
  refine wpAny_Name (wpAny_loadName_local (v := .ref Z) (by with_unfolding_all rfl) (by with_unfolding_all rfl) F.ns rfl ?_) (by decide)
  refine ⟨Z, tvs, nZ, rfl, N.get (.tail _ (.head _)), ?_⟩
  refine callNameG ?_
  k_steps
  refine callWithG_type rfl (evalArgs1G ?_)
  refine callNameG ?_
  k_steps
  refine callWithG_function (o := oF) (fd := fF) ?_
  refine callNameG ?_
  k_steps
  refine callWithG_type rfl (evalArgs1G (wpG_leaf ?_))
  k_steps
  show wpG _ _ (call (Value.type "bytes") [Value.ref ra]) _ _
  refine wpG_leaf (call_bytes_ints (isL_of (N.get (.tail _ (.tail _ hra)))) hrv hO (by rw [hrv.length, sizeLine_eq]; omega) rfl fun h2 t2 k2 hk2 => ?_)
  obtain ⟨F2, N2⟩ := led_ext F N hk2
  clear F N
  refine ⟨⟨F2.keep _ _ hoF, hfF⟩, ?_⟩
  have hbl : (byteArr row).size = row.length := byteArr_size row
  have hb : KBw.bInts (byteArr row) = row := KBa.ints_make hO
  refine decode_call (fun a o e => F2.keep _ _ (X a o e)) (T.keeps F2.keep) (law_depth L fa cd) rfl (by rw [hbl]; omega) (by rw [hb]; exact hnz) fun r t3 h3 k3 hk3 hr hr2 => ?_
  rw [hb] at hr
  obtain ⟨F3, N3⟩ := led_ext F2 N2 hk3
  clear F2 N2
  show wpG _ _ (call (Value.type "list") [Value.bytes r t3]) _ _
  refine wpG_leaf (call_list_bytes_s rfl r t3 (fun h4 k4 dvs dn hk4 hnew hri => ?_) (by omega))
  obtain ⟨F4, N4, lt4⟩ := led_new F3 N3 hk4 hnew
  clear F3 N3
  dsimp only at F4 N4 lt4 ⊢
  refine ⟨tvs, nZ, N4.get (.tail _ (.tail _ (.head _))), by omega, fun h5 hs5 hZ5 => ?_⟩
  dsimp only at hs5
  generalize h3.objs.size = D at N4 lt4 hZ5 ⊢
  have lD := lt4 _ (.tail _ (.head _))
  have lI := lt4 _ (.head _)
  dsimp only at lD lI
  obtain ⟨F5, N5⟩ := led_upd (pre := [(D, lo dvs dn), (I, oI)]) (post := fro) F4 N4 (by
    simp
    exact ⟨Nat.ne_of_gt lD, Ne.symm hZI⟩) hfZ hs5 hZ5
  repeat refine execsG_nil ?_
  rw [hr] at hri
  refine hQ h5 _ _ D F5 ?_ dvs dn ?_ hri (Nat.ne_of_gt lD) (Nat.ne_of_gt lI) fun p hp => lt4 p (.tail _ (.tail _ hp))
  · intro y hy
    by_cases h1 : y = Str.ofString "texts"
    · subst h1
      exact e1.symm
    · simp only [if_neg h1, if_neg hy]
  · intro p hp
    refine N5 p ?_
    simp only [List.mem_cons, List.mem_append] at hp ⊢
    rcases hp with h | h | h | h <;> simp [h]
end Mine

end

section
open PySem PySem.W PyProof.Rows PySem.Calls
open PySem.Sem (wp)
set_option maxRecDepth 100000
set_option maxHeartbeats 8000000
set_option linter.unusedVariables false
namespace Mine
theorem law4_turn {w : World} {s : Shared} {b0 : Heap} {L fa I S P : Addr} {cd : Value} {oI : Obj} {svs : List Value} {nS : Nat} {octs : List Int} {news : List (Addr × Obj)} {m : Str → Option Value} {mean} {mg mb : Str → Option Value} {Q : Flow → Shared → Prop}
   (X : (hd.heap_39 w.params).In b0) (T : Top hd.view_39 (looseW hd.view_39 []) mean mg mb b0)
   (F : Fr b0 L s.heap (fun y => if y = Str.ofString "due" then some (.ref P) else if y = Str.ofString "octets" then some (.ref S) else m y)) (N : News b0 L s.heap ((I, oI) :: news))
   (inS : (S, lo svs nS) ∈ news) (areS : IntsAre svs octs) (inP : LLIn news P (recvOf octs)) (hO : Octs octs) (hz : octs.length ≤ 1000)
   (hQ : ∀ h' tk' m₂, Fr b0 L h' m₂ → News b0 L h' ((I, oI) :: news) → Q .next { s with heap := h', toks := tk' }) :
   wpG (model PySem.Challenge.rw_nc0008_01.row.prog w) (callerA.deeper (lawEnv L fa cd)) (execs law4For (lawEnv L fa cd)) Q s := by
  revert X
  k_fill
  intro X
  obtain ⟨oF, fF, hoF, hfF⟩ : ∃ (o : Obj) (fd : FuncData), b0.get? 48 = some o ∧ o.data = .func fd := by
    refine' fn_ex X ?h
    case h => k_is
  refine execsG_leaf ?_
  k_steps
  (with_reducible rename Fr _ _ _ _ => F1)
  (with_reducible rename News _ _ _ _ => N1)
  rename_i Z _ lZ _
  dsimp only at lZ ⊢
  refine execsG_cons (forGG ?_)
  refine callNameG ?_
  k_steps
  refine callWithG_function (o := oF) (fd := fF) (wpG_leaf ?_)
  refine wpAny_Name (wpAny_loadName_local (v := .ref S) (by with_unfolding_all rfl) (by with_unfolding_all rfl) F1.ns rfl ?_) (by decide)
  refine ⟨⟨F1.keep _ _ hoF, hfF⟩, ?_⟩
  refine rows_call (fun a o e => F1.keep _ _ (X a o e)) (T.keeps F1.keep) (law_depth L fa cd) rfl (isL_of (N1.get (.tail _ (.tail _ inS)))) areS (by omega) fun R ents h' tk' hk he hR => ?_
  obtain ⟨F2, N2⟩ := led_ext F1 N1 hk
  obtain ⟨ras, nR, hRm, hRL⟩ := hR
  have ltZ : ∀ p ∈ ents, p.1 ≠ Z := by
    intro p hp e
    have a1 := (he p hp).2
    rw [e, N1.get (.head _)] at a1
    cases a1
  have hmem := rows_mem octs (fun c => 0 ≤ c ∧ c < 256) hO [] [] (fun _ h => nomatch h) (fun _ h => nomatch h)
  have hlen := rows_len octs [] [] 1000 (fun _ h => nomatch h) (by simpa using hz)
  have hcnt := rows_count octs [] []
  change ∀ r ∈ rowsOf octs, _ at hmem
  change ∀ r ∈ rowsOf octs, _ at hlen
  change (rowsOf octs).length ≤ _ at hcnt
  simp only [List.length_nil, Nat.zero_add] at hcnt
  have hral := hRL.length
  have N3 : News b0 L h' ((Z, lo (([] : List Addr).map Value.ref) 0) :: (I, oI) :: (ents ++ news)) := fun p hp => by
    simp only [List.mem_cons, List.mem_append] at hp
    rcases hp with h | h | h | h
    · exact N2 p (h ▸ .head _)
    · exact N2 p (h ▸ .tail _ (.head _))
    · exact news_of_ents F1 he p h
    · exact N2 p (.tail _ (.tail _ h))
  clear F1 N1 N2
  dsimp only at F2 N3 ⊢
  have hfZ : ∀ p ∈ (I, oI) :: (ents ++ news), p.1 ≠ Z := by
    intro p hp
    rcases List.mem_cons.mp hp with rfl | hp
    · exact Nat.ne_of_lt lZ.1
    · rcases List.mem_append.mp hp with hp | hp
      · exact ltZ p hp
      · exact Nat.ne_of_lt (allLt_mem lZ.2 p hp)
  have hRL' : LLs ((I, oI) :: (ents ++ news)) ras (rowsOf octs) := hRL.mono fun p hp => .tail _ (List.mem_append_left _ hp)
  have hRm' : (R, lo (ras.map Value.ref) nR) ∈ (I, oI) :: (ents ++ news) := .tail _ (List.mem_append_left _ hRm)
  refine codeG_forList (b0 := b0) (l := R) (vs := ras.map Value.ref) (n := nR) rfl rfl rfl F2 N3 (.tail _ hRm')
    (fun i m₁ news₁ => ∃ (tas : List Addr) (nZ : Nat) (fro' : List (Addr × Obj)), news₁ = (Z, lo (tas.map Value.ref) nZ) :: fro' ∧ (∀ p ∈ (I, oI) :: (ents ++ news), p ∈ fro') ∧
      LLs fro' tas (((rowsOf octs).take i).map fun row => rfin (rrun RS.init row)) ∧ (∀ p ∈ fro', p.1 ≠ Z) ∧ m₁ (Str.ofString "texts") = some (.ref Z) ∧ m₁ (Str.ofString "due") = some (.ref P))
    ⟨[], 0, _, rfl, fun p hp => hp, .nil, hfZ, rfl, rfl⟩ ?_ ?_
  · rintro i v m₁ news₁ h tk I₂ oI₂ hv ⟨tas, nZ, fro', rfl, hsub, hLL, hZ', a1, a2⟩ hmemR hoff F₁ N₁
    have hilt := (List.getElem?_eq_some_iff.mp hv).1
    rw [List.length_map] at hilt
    rw [List.getElem?_map] at hv
    obtain ⟨ra, hra, rfl⟩ := Option.map_eq_some_iff.mp hv
    obtain ⟨row, hrow, rvs, nr, hrm, hri⟩ := hRL'.get hra
    have hrowm : row ∈ rowsOf octs := List.mem_of_getElem? hrow
    have htl := hLL.length
    rw [List.length_map, List.length_take] at htl
    refine law4_in X T F₁ N₁ a1 (hsub _ hrm) hri (fun c hc => (hmem row hrowm c hc).2) (fun c hc => (hmem row hrowm c hc).1) (hlen row hrowm) (by simp; omega) (hoff _ (.head _)) hZ' (fun p hp => hoff p (.tail _ hp))
      fun h₂ tk₂ m₂ D F₂ hm₂ dvs nd N₂ hdv hDZ hDI hlt => ?_
    refine ⟨h₂, tk₂, m₂, (Z, lo ((tas ++ [D]).map Value.ref) (nZ + 1)) :: (D, lo dvs nd) :: fro', rfl, F₂, ?_, ?_, .tail _ (.tail _ (hsub _ hRm')), tas ++ [D], nZ + 1, (D, lo dvs nd) :: fro', rfl, fun p hp => .tail _ (hsub _ hp), ?_, ?_, ?_, ?_⟩
    · rw [List.map_append]; exact N₂
    · intro p hp
      rcases List.mem_cons.mp hp with rfl | hp
      · exact hoff (Z, lo (tas.map Value.ref) nZ) (.head _)
      · rcases List.mem_cons.mp hp with rfl | hp
        · exact hDI
        · exact hoff p (.tail _ hp)
    · rw [take_snocL hrow, List.map_append]
      exact LLs.append (hLL.mono fun p hp => .tail _ hp) (.cons ⟨dvs, nd, .head _, hdv⟩ .nil)
    · intro p hp
      rcases List.mem_cons.mp hp with rfl | hp
      · exact hDZ
      · exact hZ' p hp
    · rw [hm₂ _ (by decide), a1]
    · rw [hm₂ _ (by decide), a2]
  · rintro h tk m' news' F' N' hmemR ⟨tas, nZ, fro', rfl, hsub, hLL, hZ', a1, a2⟩
    rw [List.length_map, hral, List.take_length, ← recv_rows] at hLL
    refine execsG_cons (ifG (wpAny_isTrue_Compare1 ?_))
    refine wpAny_Name (wpAny_loadName_local (v := .ref Z) (by with_unfolding_all rfl) (by with_unfolding_all rfl) F'.ns a1 ?_) (by decide)
    refine wpAny_Name (wpAny_loadName_local (v := .ref P) (by with_unfolding_all rfl) (by with_unfolding_all rfl) F'.ns a2 ?_) (by decide)
    refine cmp_ll N' ⟨tas, nZ, .head _, hLL.mono fun p hp => .tail _ hp⟩ (inP.mono fun p hp => .tail _ (hsub _ (.tail _ (List.mem_append_right _ hp)))) ?_ (law_units L fa cd)
    refine wpAny_truthy_bool ?_
    rw [if_neg (by decide)]
    repeat refine execsG_nil ?_
    refine hQ h _ m' F' fun p hp => N' p (.tail _ (hsub _ ?_))
    rcases List.mem_cons.mp hp with rfl | hp
    · exact .head _
    · exact .tail _ (List.mem_append_right _ hp)
end Mine

end

section
open PySem PySem.W PyProof.Rows PySem.Calls
open PySem.Sem (wp)
set_option maxRecDepth 100000
set_option maxHeartbeats 8000000
set_option linter.unusedVariables false
namespace Mine
theorem law_phase6 {w : World} {s : Shared} {b0 : Heap} {L fa C : Addr} {cd : Value} {nC : Nat} {ts : List Addr} {led : List (Addr × Obj)} {m : Str → Option Value} {mean} {mg mb : Str → Option Value} {Q : Flow → Shared → Prop}
   (X : (hd.heap_39 w.params).In b0) (T : Top hd.view_39 (looseW hd.view_39 []) mean mg mb b0)
   (F : Fr b0 L s.heap m) (N : News b0 L s.heap led) (eC : m (Str.ofString "cases") = some (.ref C)) (inC : (C, lo (ts.map Value.ref) nC) ∈ led) (hcs : ∀ t ∈ ts, CaseIn led t)
   (hK : ∀ h tk, (∀ b o, b0.get? b = some o → h.get? b = some o) → Q (.ret (.bool true)) { s with heap := h, toks := tk }) :
   wpG (model PySem.Challenge.rw_nc0008_01.row.prog w) (callerA.deeper (lawEnv L fa cd)) (execs ((fnBody 7).drop 10) (lawEnv L fa cd)) Q s := by
  revert X
  k_fill
  intro X
  refine execsG_cons (forG ?_)
  refine wpAny_Name (wpAny_loadName_local (v := .ref C) (by with_unfolding_all rfl) (by with_unfolding_all rfl) F.ns eC ?_) (by decide)
  refine codeG_forPairs (b0 := b0) (l := C) (ts := ts) (n := nC) rfl rfl rfl rfl F N inC (fun i m₁ news₁ => news₁ = led) rfl ?_ ?_ ?_
  · rintro i m₁ news₁ rfl
    refine ⟨inC, fun t ht => ?_⟩
    obtain ⟨S, P, _, _, _, h1, _⟩ := hcs t ht
    exact ⟨S, P, h1⟩
  · rintro i t a b m₁ news₁ h tk I oI hti htm rfl hoff F₁ N₁
    obtain ⟨S, P, svs, nS, octs, h1, h2, h3, h4, h5, h6⟩ := hcs t (List.mem_of_getElem? hti)
    have q1 := N₁.get (.tail _ htm)
    rw [N₁.get (.tail _ h1)] at q1
    have q2 : tupO S P = tupO a b := Option.some.inj q1
    have q3 : S = a ∧ P = b := by
      injection q2 with _ _ q _
      injection q with q _
      injection q with q
      injection q with q1 q2
      injection q2 with q2 _
      injection q1 with q1
      injection q2 with q2
      exact ⟨q1, q2⟩
    obtain ⟨rfl, rfl⟩ := q3
    refine law4_turn X T F₁ N₁ h2 h3 h4 h5 h6 fun h' tk' m₂ F₂ N₂ => ?_
    exact ⟨h', tk', m₂, news₁, rfl, F₂, N₂, hoff, inC, rfl⟩
  · rintro h tk m' news' F' N' rfl
    refine execsG_leaf ?_
    refine wpAny_mono (Q := fun f s' => f = .ret (.bool true) ∧ ∃ tk, s' = { s with heap := h, toks := tk }) ?_ ?_ fun _ _ x => x
    · k_steps
    · rintro f s' ⟨rfl, tk, rfl⟩
      exact hK h tk F'.keep
end Mine

end

section
open PySem PySem.W PyProof.Rows PySem.Calls
open PySem.Sem (wp)
set_option maxRecDepth 100000
set_option maxHeartbeats 8000000
set_option linter.unusedVariables false
namespace Mine
theorem codeG_call_cells {prog : Program} {w : World} {A : Around} {R : Flow → Shared → Prop} {s : Shared} {name : Str} {params : Arguments} {body : List Stmt} {scope : PySem.Scope}
    {pm cd doc : Value} {a : Addr} {o : Obj} {args : List Value} {binds : List (Str × Value)}
    (hroom : A.depth < recursionLimit) (ho : s.heap.get? a = some o) (hdata : o.data = .func (Calls.docDef name params body scope pm cd doc)) (hlim : s.heap.NoLimit) (hcd : s.heap.CodeRec cd name)
    (hbind : bindArgs (Calls.docDef name params body scope pm cd doc) ⟨args, []⟩ = pure binds)
    (hkind : ∀ x ∈ binds, scope.names.lookup x.1 = some .local ∨ (scope.names.lookup x.1 = some .cell ∧ ((cellsFrom (s.heap.objs.size + 1) scope.names []).lookup x.1).isSome = true))
    (hnd : ((cellsFrom 0 scope.names []).map (·.1)).Nodup)
    (h : ∀ h₁ tk cells, Fr s.heap s.heap.objs.size h₁ (bindL (envOfC name scope s.heap.objs.size a cd).kindOf binds fun _ => none) → News s.heap s.heap.objs.size h₁ cells →
      CellsAre (bindC (envOfC name scope s.heap.objs.size a cd).kindOf binds fun _ => none) (cellsFrom (s.heap.objs.size + 1) scope.names []) cells →
      wpG (model prog w) (A.deeper (envOfC name scope s.heap.objs.size a cd)) (execs body (envOfC name scope s.heap.objs.size a cd))
        (fun f s' => R (.ret (match f with | .ret v => v | _ => .none)) s') { s with heap := h₁, toks := tk })
    (hco : scope.isCoroutine = false := by rfl) (hgen : scope.isGenerator = false := by rfl) (hk : scope.kind = .function := by rfl) :
    codeG (model prog w) A (.call (.ref a) ⟨args, []⟩) R s := by
  refine codeG_call_function (fd := Calls.docDef name params body scope pm cd doc) (body := body) hroom ho hdata hco hgen rfl hcd ?_
  rw [hbind]
  refine wpAny_pure (wpAny_newFunctionEnv_cells hk hkind fun env' he s' x => ?_)
  subst he
  refine ⟨hlim.keeps x.toInCall.keep, codeG_func ?_⟩
  obtain ⟨h₁, tk, rfl, _⟩ := x.done
  have hk₁ := x.toInCall.keep
  obtain ⟨cells, NC, Y⟩ := Cl.news (h₀ := s.heap) (Nat.le_refl _) fun n c hm => ⟨x.cell n c (lookup_of_mem_nodup (cellsFrom_names scope.names 0 (s.heap.objs.size + 1) [] [] rfl ▸ hnd) hm), x.above n c hm⟩
  exact h h₁ tk cells ⟨x.toInCall.ns, hk₁, Nat.le_refl _⟩ NC Y

theorem law_all {w : World} {s : Shared} {b0 : Heap} {L fa sa : Addr} {cd : Value} {oc : Obj} {ov : Option Value} {vs : List Value} {ns : List Int} {m : Str → Option Value} {mean} {mg mb : Str → Option Value} {Q : Flow → Shared → Prop}
   (X : (hd.heap_39 w.params).In b0) (T : Top hd.view_39 (looseW hd.view_39 []) mean mg mb b0)
   (F : Fr b0 L s.heap m) (N : News b0 L s.heap [(L + 1, oc)]) (hoc : oc.data = .cell ov) (e1 : m (Str.ofString "script") = some (.ref sa)) (hsa : b0.IsList sa vs.toArray) (hi : IntsAre vs ns) (hlen : ns.length ≤ 63)
   (hK : ∀ h tk, (∀ b o, b0.get? b = some o → h.get? b = some o) → Q (.ret (.bool true)) { s with heap := h, toks := tk }) :
   wpG (model PySem.Challenge.rw_nc0008_01.row.prog w) (callerA.deeper (lawEnv L fa cd)) (execs (fnBody 7) (lawEnv L fa cd)) Q s := by
  refine law_phase1 X T F N e1 hsa hi hlen fun h1 tk1 m1 led1 nb P nvs pss r tr F1 N1 H1 hr1 => ?_
  refine law_phase2 X T F1 N1 H1 fun h2 tk2 m2 led2 S E svs evs nS nE rss F2 N2 hs2 hm2 HS2 => ?_
  have H2 := H1.mono (m' := m2) hs2 (hm2 _ (by decide) (by decide) (by decide)) (hm2 _ (by decide) (by decide) (by decide))
  refine law_phase3 X T F2 N2 H2 HS2 fun h3 tk3 m3 led3 C t F3 N3 hs3 hC3 hm3 eC3 ht3 => ?_
  have H3 := H2.mono (m' := m3) hs3 (hm3 _ (by decide)) (hm3 _ (by decide))
  have HS3 := HS2.mono (m' := m3) hs3 (hm3 _ (by decide)) (hm3 _ (by decide))
  have hr3 : m3 (Str.ofString "room") = some (.int r tr) := (hm3 _ (by decide)).trans ((hm2 _ (by decide) (by decide) (by decide)).trans hr1)
  refine law_phase5 X T F3 N3 hC3 H3 HS3 eC3 ht3 hoc hr3 fun h4 tk4 m4 led4 C4 nC4 ts4 F4 N4 eC4 inC4 hcs4 _ => ?_
  exact law_phase6 X T F4 N4 eC4 inC4 hcs4 fun h tk hk => hK h tk hk
theorem law_try : PySem.Challenge.rw_nc0008_01.Holds := hd (by
  k_fill
  intro w s₀ s₁ mg mb G Y fa o pm cd doc dV kV ho hd hcd hD hmg hg args vals as hpre hlay hrd hwl hlo
  have KX := kIn_of Y
  refine Ground.open G ?_
  intro T B D TE TW
  clear B D TE TW Y
  wrow_args hpre hlay hrd hwl hlo
  refine wpG_call ?_
  have he := Dflts.none hD rfl; subst he; have he := Dflts.noKw hD; subst he
  refine codeG_call_cells (by decide) ho (fd_plain hd) (Top.nolimit T) hcd rfl (kinds_of (by kinds_ok)) (by decide) fun h₁ tk₁ cells F N0 X0 => ?_
  cells_open X0
  clear ho hd hcd hmg
  (with_reducible rename Heap.IsList _ _ _ => hL)
  (with_reducible rename IntsAre _ _ => hI)
  (with_reducible rename ¬ _ < _ => hc)
  (with_reducible rename _ = Data.cell _ => hoc)
  refine law_all KX T F N0 hoc rfl hL hI (by omega) ?_
  intro h tk hk
  refine ⟨.inl ⟨.bool true, .bool true, [], rfl, ?_, .bool _, ?_, ?_⟩, .of_keep hk, rfl, .of_eq hg⟩
  · exact raisesW_false (by wrow_none_raised)
  · exact postW_of (by wrow_shape) (by wtm_val) (by str_meet; first | done | w_fin)
  · intro _; exact ⟨.nil, fun _ h => nomatch h⟩)
end Mine

end

set_option maxRecDepth 100000 in
set_option maxHeartbeats 8000000 in
theorem PySem.Challenge.cw_nc0008_01_holds : PySem.Challenge.rw_nc0008_01.Holds := by
  exact Mine.law_try
