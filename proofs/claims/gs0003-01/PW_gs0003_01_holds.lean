import PyProof.Rows.All
import Wide.All
import OpenK.AllK
import Wide.FinOn
import Lean
import PySem.Challenge.RW_gs0003_01
/-! One file: my own texts, joined in the order in which they build. -/
set_option Elab.async false
section
open PySem PySem.W PyProof.Rows PySem.Spec PySem.Calls
set_option maxRecDepth 100000
namespace Mine
/-! the logic over contexts whose stack holds no codec frame -/
def noDec : Code → Bool
  | .builtin id _ => !Builtin.Bytes.decodersThatHold.contains id
  | _ => true
def OkB (Γ : PySem.Ctx) : Prop := ∀ x ∈ Γ.below, noDec x.1 = true
def OkC (Γ : PySem.Ctx) : Prop := noDec Γ.code = true ∧ OkB Γ
def wpP {α : Type} (M : Model) (A : Around) (t : Sem α) (Q : α → Shared → Prop) (E : Value → Shared → Prop) (s : Shared) : Prop :=
  ∀ (Γ : PySem.Ctx) p, Γ.In A → OkC Γ → Sem.wp M Γ t (fun a _ s' => Q a s') (fun e _ s' => E e s') p s
def codeP (M : Model) (A : Around) (c : Code) (R : Result → Shared → Prop) (s : Shared) : Prop :=
  ∀ (Γ : PySem.Ctx) p, Γ.code = c → Γ.Below A → OkB Γ → wpCode M Γ R p s
section
variable {α β : Type} {M : Model} {A : Around} {E : Value → Shared → Prop} {s : Shared}
theorem wpP_of {t : Sem α} {Q : α → Shared → Prop} (h : wpAny M A t Q E s) : wpP M A t Q E s := fun Γ p hΓ _ => h Γ p hΓ
theorem codeP_of {c : Code} {R : Result → Shared → Prop} (h : codeAny M A c R s) : codeP M A c R s := fun Γ p hc hΓ _ => h Γ p hc hΓ
theorem wpP_pure {a : α} {Q : α → Shared → Prop} (h : Q a s) : wpP M A (pure a) Q E s := wpP_of (wpAny_pure h)
theorem wpP_mono {t : Sem α} {Q Q' : α → Shared → Prop} {E' : Value → Shared → Prop} (h : wpP M A t Q E s)
    (hQ : ∀ a s, Q a s → Q' a s) (hE : ∀ e s, E e s → E' e s) : wpP M A t Q' E' s :=
  fun Γ p hΓ ok => Sem.wp_mono M Γ t (fun a _ s => hQ a s) (fun e _ s => hE e s) p s (h Γ p hΓ ok)
theorem wpP_bind {m : Sem α} {f : α → Sem β} {Q : β → Shared → Prop} (h : wpP M A m (fun a s' => wpP M A (f a) Q E s') E s) :
    wpP M A (m >>= f) Q E s := fun Γ p hΓ ok => by
  rw [Sem.wp_bind']
  exact Sem.wp_mono M Γ m (fun a p' s' h' => h' Γ p' hΓ ok) (fun _ _ _ h' => h') p s (h Γ p hΓ ok)
theorem wpP_holding {vs : List Value} {m : Sem α} {Q : α → Shared → Prop} (h : wpP M A m Q E s) : wpP M A (holding vs m) Q E s :=
  fun Γ p hΓ ok => by rw [Sem.wp_holding]; exact h Γ p hΓ ok
theorem wpP_keep {vs : List Value} {m : Sem α} {Q : α → Shared → Prop} (h : wpP M A m Q E s) : wpP M A (m.keep vs) Q E s :=
  fun Γ p hΓ ok => by rw [Sem.wp_keep]; exact h Γ p hΓ ok
theorem wpP_onRaise {m : Sem α} {k : Value → Sem Unit} {Q : α → Shared → Prop}
    (h : wpP M A m Q (fun e s' => wpAny M A (k e) (fun _ s'' => E e s'') E s') s) : wpP M A (m.onRaise k) Q E s := fun Γ p hΓ ok => by
  rw [Sem.wp_onRaise]
  exact Sem.wp_mono M Γ m (fun _ _ _ h' => h') (fun e p' s' h' => h' Γ p' hΓ) p s (h Γ p hΓ ok)
theorem wpP_of_eq {t : Sem α} {a : α} {f : α → Sem β} {Q : β → Shared → Prop} (e : t = pure a) (h : wpP M A (f a) Q E s) : wpP M A (t >>= f) Q E s := by
  subst e
  exact wpP_bind (wpP_pure h)
theorem wpP_runValue {c : Code} {Q : Value → Shared → Prop}
    (hc : codeP M A c (fun r s' => match r with | .ok (.ret v) => Q v s' | .ok _ => False | .error e => E e s') s) :
    wpP M A (runValue c) Q E s := fun Γ p hΓ ok => by
  rw [Sem.wp_runValue]
  refine hc _ p rfl (hΓ.enter c none p (by intro x; cases x)) fun x hx => ?_
  rcases List.mem_cons.mp (show x ∈ (Γ.code, p) :: Γ.below from hx) with rfl | hx
  · exact ok.1
  · exact ok.2 x hx
theorem wpP_call {f : Value} {pos : List Value} {kw : List (Str × Value)} {Q : Value → Shared → Prop}
    (hc : codeP M A (.call f ⟨pos, kw⟩) (fun r s' => match r with | .ok (.ret v) => Q v s' | .ok _ => False | .error e => E e s') s) :
    wpP M A (call f pos kw) Q E s := wpP_runValue hc
theorem codeP_of_tree {c : Code} {R : Result → Shared → Prop} (hn : noDec c = true)
    (h : wpP M (A.under c) (M.den c) (fun fin s' => match fin with | .done f => R (.ok f) s' | .again c' => c'.quiet = true ∧ codeP M A c' R s')
      (fun e s' => R (.error e) s') s) : codeP M A c R s := fun Γ p hc hΓ ok => by
  rw [wpCode_iff_wp, hc]
  refine Sem.wp_mono M Γ _ (fun fin p' s' h' => ?_) (fun _ _ _ h' => h') p s (h Γ p (hc ▸ hΓ.in) ⟨hc ▸ hn, ok⟩)
  cases fin with
  | done f => exact h'
  | again c' => exact ⟨h'.1, h'.2 (Γ.goto c') p' rfl (hΓ.goto c') ok⟩
theorem codeP_mono {c : Code} {R R' : Result → Shared → Prop} (h : codeP M A c R s) (hR : ∀ r s, R r s → R' r s) : codeP M A c R' s :=
  fun Γ p hc hΓ ok => wpCode_mono hR (h Γ p hc hΓ ok)
/-- a look over the stack that only codec frames and guards could answer -/
theorem wpP_stackAny_false {f : Code × Pos → Bool} {g : List Code} {Q : Bool → Shared → Prop} (hg : A.guards = some g)
    (hf : ∀ c p, c.isGuard = false → noDec c = true → f (c, p) = false) (hno : ∀ c ∈ g, ∀ p, f (c, p) = false) (h : Q false s) : wpP M A (do return (← stack).any f) Q E s := fun Γ p hΓ ok => by
  show Q (((Γ.code, p) :: Γ.below).any f) s
  have key : ∀ (l : List (Code × Pos)), (∀ x ∈ l, noDec x.1 = true) → (∀ c ∈ guardsOf l, ∀ p, f (c, p) = false) → l.any f = false := by
    intro l
    induction l with
    | nil => intro _ _; rfl
    | cons x r ih =>
      intro h1 h2
      obtain ⟨c, q⟩ := x
      rw [guardsOf_cons] at h2
      have hx : f (c, q) = false := by
        cases hgd : c.isGuard with
        | false => exact hf c q hgd (h1 (c, q) List.mem_cons_self)
        | true => exact h2 c (List.mem_append_left _ (by simp [Code.guards, hgd])) q
      rw [List.any_cons, hx, ih (fun y hy => h1 y (List.mem_cons_of_mem _ hy)) (fun c' hc' p' => h2 c' (List.mem_append_right _ hc') p')]
      rfl
  rw [key _ (fun x hx => by
    rcases List.mem_cons.mp hx with rfl | hx
    · exact ok.1
    · exact ok.2 x hx) (fun c hc p' => hno c (by rw [← hΓ.2.2.2.1 g hg, ← guardsOf_cons Γ.code p]; exact hc) p')]
  exact h
end
section
variable {prog : Program} {w : World} {A : Around} {s : Shared} {R : Result → Shared → Prop}
theorem codeP_func {body : List Stmt} {env : Env}
    (h : wpP (model prog w) (A.deeper env) (execs body env) (fun f s' => R (.ok (.ret (match f with | .ret v => v | _ => .none))) s')
      (fun e s' => wpAny (model prog w) (A.deeper env) (leaving env e) (fun _ s'' => R (.error e) s'') (fun e' s'' => R (.error e') s'') s') s) :
    codeP (model prog w) A (.func body env) R s := by
  refine codeP_of_tree rfl ?_
  show wpP _ (A.deeper env) (do point; match ← (execs body env).onRaise (leaving env) with | .ret v => ret v | _ => ret .none) _ _ s
  refine wpP_bind (wpP_of (wpAny_point (wpP_bind (wpP_onRaise (wpP_mono h (fun f s' h' => ?_) fun _ _ h' => h')))))
  cases f <;> exact wpP_pure h'
theorem codeP_builtin {id : String} {args : Args} {b : Builtin} (hn : noDec (.builtin id args) = true) (hb : entryFor table id = some b)
    (h : wpP (model prog w) (A.under (.builtin id args)) (b args)
      (fun fin s' => match fin with | .done f => R (.ok f) s' | .again c' => c'.quiet = true ∧ codeP (model prog w) A c' R s') (fun e s' => R (.error e) s') s) :
    codeP (model prog w) A (.builtin id args) R s := by
  refine codeP_of_tree hn ?_
  show wpP _ _ (match entryFor table id with | some b => b args | none => unsupported ((withoutEnding? id "#data").getD id)) _ _ s
  rw [hb]; exact h
theorem codeP_call_function {a : Addr} {args : Args} {o : Obj} {fd : FuncData} {body : List Stmt} (hroom : A.depth < recursionLimit)
    (ho : s.heap.get? a = some o)
    (hd' : o.data = .func fd) (hco : fd.scope.isCoroutine = false) (hgen : fd.scope.isGenerator = false) (hbody : fd.body = .stmts body) (hcd : s.heap.CodeRec fd.code fd.qualname)
    (h : wpAny (model prog w) A.in1 (bindArgs fd args) (fun binds s₁ =>
      wpAny (model prog w) A.in1 (newFunctionEnv fd.scope fd.globals fd.closure binds (fd.qualname ++ ".<locals>.") (some a) fd.code none fd.builtins)
        (fun env s₂ => s₂.heap.NoLimit ∧ codeP (model prog w) A (.func body env) R s₂) (fun e s' => R (.error e) s') s₁) (fun e s' => R (.error e) s') s) :
    codeP (model prog w) A (.call (.ref a) args) R s := by
  refine codeP_of_tree rfl ?_
  show wpP _ A.in1 (callAny (.ref a) args) _ _ s
  simp only [callAny]
  refine wpP_of (wpAny_bind (wpAny_load ho ?_))
  obtain ⟨c, oc, vs, tq, hc, hoc, hdc, hq⟩ := hcd
  simp only [hd', callFunction, hco, hgen, hbody, hc]
  rw [hc] at h
  refine wpAny_bind (m := field (.ref c) 1) (wpAny_field hoc hdc hq (wpAny_bind (wpAny_pure ?_)))
  exact wpAny_bind (wpAny_mono h (fun binds s₁ h₁ => wpAny_bind (wpAny_mono h₁ (fun env s₂ h₂ => wpAny_bind (wpAny_enterFrame h₂.1 hroom
    (wpAny_pure (And.intro rfl h₂.2)))) fun _ _ h' => h')) fun _ _ h' => h')
end
end Mine
end
section
open PySem PySem.W PyProof.Rows PySem.Spec PySem.Calls
open Sem (wp)
set_option maxRecDepth 100000
namespace Mine
theorem caller_okc : OkC (⟨.builtin "claim.caller" {}, none, none, [], none⟩ : PySem.Ctx) := ⟨by decide +kernel, fun x hx => by cases hx⟩
theorem thread_ends_bothP {prog : Program} {w : World} {t : Sem Fin} {s : Shared} {R : Result → Shared → Prop} (hreg : s.asleep)
    (h : wpP (model prog w) callerA t (fun fin s' => ∃ f, fin = .done f ∧ (R (.ok f) s' ∧ leftWithCleanup s'.gens = false)) (fun e s' => R (.error e) s' ∧ leftWithCleanup s'.gens = false) s) :
    ∃ n r s' s'', runN (denote table) prog w n s ⟨t, .builtin "claim.caller" {}, default, []⟩ = .halted (outcomeOf r) s' ∧
      schedN (denote table) prog w n (.single s ⟨t, .builtin "claim.caller" {}, default, []⟩) = .halted (outcomeOf r) s' ∧ s'.forget = s''.forget ∧ R r s'' := by
  have h2 : wp (model prog w) ⟨.builtin "claim.caller" {}, none, none, [], none⟩ t (Sem.finPost (model prog w) ⟨.builtin "claim.caller" {}, none, none, [], none⟩ fun r s' => R r s' ∧ leftWithCleanup s'.gens = false) (fun e _ s' => R (.error e) s' ∧ leftWithCleanup s'.gens = false) default s := by
    refine Sem.wp_mono _ _ t (fun fin p' s' h' => ?_) (fun _ _ _ h' => h') default s (h _ default caller_in caller_okc)
    obtain ⟨f, rfl, hf⟩ := h'
    exact hf
  obtain ⟨n, r, s₁, s₂, hs, hn, hfo, hR⟩ := wp_halts_full (M := model prog w) (R := R) hreg h2
  exact ⟨n, r, s₂, s₁, hn, hs, hfo, hR⟩
theorem callFrom_of_specP {c : ClaimW} {tree : List Value → Sem Fin} {w : World} {s : Shared} {free : Addr → Prop} {gens : Prop} {kept : Heap → Prop} (hz : s.asleep) (hgens : s.gens = #[])
    (hspec : ∀ args, c.pre args = true → WData.layableAll args = true →
      ∀ ord : List DictEntry → List DictEntry, (∀ l, (ord l).Perm l) →
      ∃ vs s₁, layAllW c.records (classAt s.heap) w.params ord args s = some (vs, s₁) ∧
        wpP (model c.prog w) callerA (tree vs) (fun fin s' => ∃ f, fin = .done f ∧ (c.Ends s args vs s₁ (.ok f) s' ∧ s'.os = s.os ∧ AllBare s'.gens ∧ kept s'.heap))
          (fun e s' => c.Ends s args vs s₁ (.error e) s' ∧ s'.os = s.os ∧ AllBare s'.gens ∧ kept s'.heap) s₁) :
    c.CallFrom (fun vs => ⟨tree vs, .builtin "claim.caller" {}, default, []⟩) w free gens kept s := by
  intro args hpre hlay ord hord
  obtain ⟨vs, s₁, hlaid, hcode⟩ := hspec args hpre hlay ord hord
  have hal := layAllW_rest _ _ _ hlaid
  obtain ⟨k, r, s', s'', hrun, hsched, hfo, hcase, hos, hkp⟩ := thread_ends_bothP (prog := c.prog) (w := w) (t := tree vs) (s := s₁)
    (R := fun r s' => c.Ends s args vs s₁ r s' ∧ s'.os = s.os ∧ kept s'.heap)
    (Shared.asleep_of_life hal.2.2.2 hz)
    (wpP_mono hcode (by
      rintro fin s' ⟨f, e, h1, h2, h3, h4⟩
      exact ⟨f, e, ⟨h1, h2, h4⟩, leftWithCleanup_false_of_bare h3⟩) (by
      rintro e s' ⟨h1, h2, h3, h4⟩
      exact ⟨⟨h1, h2, h4⟩, leftWithCleanup_false_of_bare h3⟩))
  obtain ⟨eh, _, _, eo, _⟩ := Shared.forget_eq hfo
  have hcase := hcase.congr eh
  have hkp : kept s'.heap := by first | exact eh ▸ hkp | (rw [eh] at hkp; exact hkp) | (rw [← eh] at hkp; exact hkp)
  rw [← eo] at hos
  have hlife : s'.heap.life = s.heap.life := (runN_life _ _ _ hrun).trans hal.2.2.2
  refine ⟨vs, s₁, hlaid, k, _, s', hsched, ?_, (fun _ i x hx => by rw [hgens] at hx; simp at hx), hkp, by rw [hlife], Shared.rest_eq hos⟩
  rcases hcase with ⟨v, rfl, d1, d2, d3, d4, d5⟩ | ⟨e, ob, cls, rfl, d1, d2, d3, d4, d5⟩
  · exact .inl ⟨v, rfl, d1, d2, d3, fun b o y _ => d4 b o y, d5⟩
  · exact .inr ⟨e, ob, cls, rfl, d1, d2, d3, d4, fun b o y _ => d5 b o y⟩
theorem open_anyP {r : RowW} {run : Value → List Value → Sem Value} {tree : List Value → Sem Fin} {q : Program} {loose defs kps : List Str} {writes : Bool} {Xt : Shared → Bool} {XP : (Str → Option Value) → Heap → Prop} {α : Type} {Yf : Shared → α} {Ya : World → α} {YP : World → Heap → Prop} {N : Nat}
    (left : LeftO r.prog q loose Xt Yf Ya N) (hY : ∀ w s, Yf s = Ya w → YP w s.heap) (hYk : ∀ w h h', YP w h → (∀ b o, h.get? b = some o → h'.get? b = some o) → YP w h') (hX : ∀ s, Xt s = true → XP (s.heap.nsMap mainGlobals) s.heap) (hXk : ∀ mg h h', XP mg h → (∀ b o, h.get? b = some o → h'.get? b = some o) → XP mg h')
    (hRf : ∀ s, Xt s = true → RecFacts r.records s.heap) (hwr : (!writes || r.records.isEmpty) = true) (ok : (chainsOk q && opensWell r.prog && (frees r && r.within.isEmpty)) = true) (hb : r.prog.bare) (hw : r.promised)
    (ht : ∀ vs (w : World) (s : Shared) mg f (Q : Fin → Shared → Prop) (E : Value → Shared → Prop), s.heap.Ns mainGlobals mg → mg r.name = some f → wpP (model r.prog w) callerA (run f vs) (fun v s' => Q (.done (.ret v)) s') E s → wpP (model r.prog w) callerA (tree vs) Q E s)
    (pin : ∀ w s, s.heap.isNs mainGlobals = true → Ground q loose [] XP w s (s.heap.nsMap mainGlobals) (s.heap.nsMap builtinsNs) s.heap → ∀ n ∈ defs, isTheDefsW r.prog s.heap n)
    (call : ∀ (w : World) (s₀ s₁ : Shared) (mg mb : Str → Option Value), Ground q loose r.records XP w s₀ mg mb s₁.heap → YP w s₁.heap → ∀ (args : List WData) (vs : List Value) (as : List Addr),
      r.claim.pre args = true → WData.layableAll args = true → Laid r.records w s₀ s₁ args vs as → sysModules < s₀.heap.objs.size → ∃ f, mg r.name = some f ∧
        wpP (model r.prog w) callerA (run f vs) (fun v s' => GoodWG r.claim (classAt s₀.heap) (ExcName.means s₀.heap) args s₁ (.ok (.ret v)) s')
          (fun e s' => GoodWG r.claim (classAt s₀.heap) (ExcName.means s₀.heap) args s₁ (.error e) s') s₁) : r.claim.HoldsOpenBy (fun vs => ⟨tree vs, .builtin "claim.caller" {}, default, []⟩) defs kps writes := by
  obtain ⟨ok, k5⟩ := Bool.and_eq_true_iff.mp ok
  obtain ⟨hch, o1⟩ := Bool.and_eq_true_iff.mp ok
  obtain ⟨k5, k6⟩ := Bool.and_eq_true_iff.mp k5
  obtain ⟨hsame, hu, ha, hap, hm⟩ := frees_parts k5
  refine ⟨⟨hb, o1, by show r.makers.map _ = []; rw [hm]; rfl⟩, hw.witness, fun w => ⟨(left.behind hX hch w).1, fun s' hs' => ?_⟩⟩
  obtain ⟨s₀, hf, hg0, s, hT, hz, hgens, hg, G00, y⟩ := (left.behind (XP := fun mg h => XP mg h ∧ RecFacts r.records h) (fun s hs => ⟨hX s hs, hRf s hs⟩) hch w).2 s' hs'
  have G0 : Ground q loose [] XP w s (s.heap.nsMap mainGlobals) (s.heap.nsMap builtinsNs) s.heap := ⟨G00.T, G00.B, G00.D, G00.TE, G00.TD, G00.W, G00.X.1, G00.cls, G00.has, G00.apart, G00.once, G00.K⟩
  have RF := G00.X.2
  have hT' := hT
  refine ⟨s₀, hf, hg0, s, hT, pin w s hg G0, RF.1, RF.2.1, ?_⟩
  have hgens : s.gens = #[] := Array.eq_empty_of_size_eq_zero (beq_iff_eq.mp hgens)
  have G : Ground q loose r.records XP w s _ _ s.heap := RF.ground G0
  refine callFrom_of_specP (c := r.claim) hz hgens fun args hpre hlay ord hord => ?_
  obtain ⟨⟨vs, s₁⟩, hlaid⟩ := Option.isSome_iff_exists.mp (layAllW_isSome (P := w.params) (ord := ord) G.has args r.args s (pre_splitW hpre).1)
  have keeps := layAllW_keeps _ _ _ hlaid
  have hal := layAllW_rest _ _ _ hlaid
  obtain ⟨as, hrd, hin, hold⟩ := reads_layAllW hord _ _ _ hlaid hlay s₁.heap (fun _ _ e => e)
  have L : Laid r.records w s s₁ args vs as := ⟨⟨ord, hord, hlaid⟩, hrd, hin, hold, keeps, hal.1.trans hgens, hal.2.2.1⟩
  have G₁ := G.keeps hXk keeps
  obtain ⟨f, hf, h⟩ := call w s s₁ _ _ G₁ (hYk _ _ _ (hY w s y) keeps) args vs as hpre hlay L G.low
  have hi := ident_freeW hu ha hap
  have hwi : r.claim.within = [] := List.isEmpty_iff.mp k6
  exact ⟨vs, s₁, hlaid, ht vs w s₁ _ f _ _ G₁.T.g hf (wpP_mono h (fun v s' g => ⟨_, rfl, have z := g.laid (c := r.claim) hsame hwi hi L; ⟨z.1, z.2.1, z.2.2, fun q => ⟨namesKept_of hT' hg kps keeps g.2.1.old, noTable hwr q⟩⟩⟩) fun e s' g => have z := g.laid (c := r.claim) hsame hwi hi L; ⟨z.1, z.2.1, z.2.2, fun q => ⟨namesKept_of hT' hg kps keeps g.2.1.old, noTable hwr q⟩⟩)⟩
abbrev WalkP (q : Program) (loose : List Str) (XP : (Str → Option Value) → Heap → Prop) (YP : World → Heap → Prop) (r : RowW) (d : DefRec) (kwd : List (Str × Expr)) (run : Value → List Value → Sem Value) : Prop :=
  ∀ (w : World) (s₀ s₁ : Shared) (mg mb : Str → Option Value), Ground q loose r.records XP w s₀ mg mb s₁.heap → YP w s₁.heap → ∀ (a : Addr) (o : Obj) (pm cd doc dV kV : Value), s₁.heap.get? a = some o →
    o.data = .func { docDef d.name d.params d.body d.scope pm cd doc with defaults := dV, kwdefaults := kV } → s₁.heap.CodeRec cd d.name → Dflts mg s₁.heap d.params kwd dV kV → mg d.name = some (.ref a) → s₁.gens = #[] →
    ∀ (args : List WData) (vals : List Value) (as : List Addr), r.claim.pre args = true → WData.layableAll args = true → ReadsAllW r.records (classAt s₀.heap) s₁.heap vals args as → WellAll w.params s₁.heap vals args → (∀ a ∈ as, (a == sysModules) = false) →
      wpP (model r.prog w) callerA (run (.ref a) vals) (fun v s' => GoodWG r.claim (classAt s₀.heap) (ExcName.means s₀.heap) args s₁ (.ok (.ret v)) s')
        (fun e s' => GoodWG r.claim (classAt s₀.heap) (ExcName.means s₀.heap) args s₁ (.error e) s') s₁
theorem PySem.W.holds_open {r : OpenRow} {q : Program} {loose : List Str} {Xt : Shared → Bool} {XP : (Str → Option Value) → Heap → Prop} {α : Type} {Yf : Shared → α} {Ya : World → α} {YP : World → Heap → Prop} {d : DefRec} {kwd : List (Str × Expr)} {N : Nat}
    (left : LeftO r.prog q loose Xt Yf Ya N) (hY : ∀ w s, Yf s = Ya w → YP w s.heap) (hYk : ∀ w h h', YP w h → (∀ b o, h.get? b = some o → h'.get? b = some o) → YP w h')
    (hX : ∀ s, Xt s = true → XP (s.heap.nsMap mainGlobals) s.heap) (hXk : ∀ mg h h', XP mg h → (∀ b o, h.get? b = some o → h'.get? b = some o) → XP mg h')
    (hdef : defOf q r.name = some (d, kwd)) (hp : r.prog.theDef r.name = some (d.params, d.body, d.scope)) (hk : kwWritten? d.params.kwonlyargs d.params.kw_defaults = some kwd) (hRf : ∀ s, Xt s = true → RecFacts r.records s.heap) (hwr : (!r.writes || r.records.isEmpty) = true)
    (k1 : r.wellSaid = true) (ok : (chainsOk q && opensWell r.prog && (frees r.toRowW && r.within.isEmpty)) = true) (hb : r.prog.bare) (hw : r.toRowW.promised)
    (call : WalkP q loose XP YP r.toRowW d kwd fun f vs => PySem.call f vs) : r.Holds := by
  refine ⟨k1, hw, open_anyP (r := r.toRowW) (run := fun f vs => PySem.call f vs) (tree := fun vs => do match ← nsGet mainNs r.name with
      | some f => do ret (← PySem.call f vs)
      | none => unsupported "claim.caller:no-such-global") left hY hYk hX hXk hRf hwr ok hb hw
    (fun vs w s mg f Q E hg hf h => wpP_bind (wpP_of (wpAny_nsGet hg (by rw [hf]; exact wpP_bind (wpP_mono h (fun _ _ x => wpP_pure x) fun _ _ x => x)))))
    (fun w s hg G n hn => ?_) fun w s₀ s₁ mg mb G Y args vs as hpre hlay L low => ?_⟩
  · obtain rfl : n = r.name := by split at hn <;> simp_all
    exact pinned_of_view hg G hdef hp hk
  · obtain ⟨a, o, pm, cd, doc, dV, kV, h1, h2, h3, h4, h5⟩ := G.fn hdef
    exact ⟨.ref a, h1, call w s₀ s₁ mg mb G Y a o pm cd doc dV kV h2 h3 h4 h5 (defOf_name hdef ▸ h1) L.gens args vs as hpre hlay L.reads L.well (L.low low)⟩
end Mine
end
section
open PySem PySem.W PyProof.Rows
set_option maxRecDepth 100000
set_option maxHeartbeats 8000000
namespace Mine
open_top hd for PySem.Challenge.rw_gs0003_01
end Mine
end
section
open PySem PySem.W PyProof.Rows PySem.Spec PySem.Calls
set_option maxRecDepth 100000
namespace Mine
noncomputable abbrev LL : List Str := looseW hd.view_39 [] ++ List.map (fun x => x.name) (recsOf hd.view_39) ++ List.map (fun x => x.fst) (litsOf hd.view_39) ++ List.map (fun x => x.name) (clssOf hd.view_39 (looseW hd.view_39 []))
abbrev tab1 (c : Addr) : Obj := tabObj #[rawInt 32, rawInt 4, .ref c]
abbrev tab2 (c : Addr) : Obj := tabObj #[rawInt 47, rawInt 4, .ref c]
def IsPair (q r : Int) (o : Obj) : Prop := ∃ t1 t2 c, o = { cls := .type "tuple", data := .seq #[.int q t1, .int r t2] c }
theorem allNe {a d : Addr} {l : List (Addr × Obj)} (h : AllLt a l) (hd : @LE.le Nat _ a d) : ∀ p ∈ l, p.1 ≠ d := by
  induction l with
  | nil => intro p hp; cases hp
  | cons q r ih =>
    intro p hp
    rcases List.mem_cons.mp hp with rfl | hp
    · exact Nat.ne_of_lt (Nat.lt_of_lt_of_le h.1 hd)
    · exact ih h.2 p hp
theorem allLt_le {a d : Addr} {l : List (Addr × Obj)} (h : AllLt a l) (hd : @LE.le Nat _ a d) : AllLt d l := by
  induction l with
  | nil => trivial
  | cons q r ih => exact ⟨Nat.lt_of_lt_of_le h.1 hd, ih h.2⟩
theorem bits_le {x : Int} {k : Nat} (h0 : 0 ≤ x) (h1 : x < ((2 ^ k : Nat) : Int)) : Builtin.Int.intBits x ≤ k := by
  unfold Builtin.Int.intBits
  by_cases h : x = 0
  · simp [h]
  · have hb : (x == 0) = false := by simpa using h
    rw [hb]
    have hn : x.natAbs ≠ 0 := by omega
    have : x.natAbs.log2 < k := (Nat.log2_lt hn).mpr (by omega)
    simp only [Bool.false_eq_true, if_false]
    omega
theorem bits_ge {x : Int} {k : Nat} (h1 : ((2 ^ k : Nat) : Int) ≤ x) : k + 1 ≤ Builtin.Int.intBits x := by
  unfold Builtin.Int.intBits
  have hp : 0 < 2 ^ k := Nat.two_pow_pos k
  have h : x ≠ 0 := by omega
  have hb : (x == 0) = false := by simpa using h
  rw [hb]
  have hn : x.natAbs ≠ 0 := by omega
  have : k ≤ x.natAbs.log2 := by
    refine Nat.le_of_not_lt fun q => ?_
    have := (Nat.log2_lt hn).mp q
    omega
  simp only [Bool.false_eq_true, if_false]
  omega
section
variable {prog : Program} {w : World} {A A₀ : Around} {s : Shared} {K : Frag} {L : Addr} {h₀ base : Heap} {m mg mb : Str → Option Value} {news : List (Addr × Obj)} {p : Program} {loose : List Str} {mean : ExcName → Option Value} {E : Value → Shared → Prop}
theorem code_defL {env : Env} {outer : List Env} {R : Result → Shared → Prop} {name qual : Str} {params : Arguments} {body : List Stmt} {scope : Scope} {dV kV doc pm cdv ct oc : Value} {an od : Option Addr} {osl : Array (Option Value)} {f : Addr} {args : Args} {binds : List (Str × Value)}
    (B : Below A₀ base outer h₀) (F : Fr h₀ L s.heap m) (X₀ : K.In h₀) (N : News h₀ L s.heap news) (T : Top p loose mean mg mb h₀) (hA : A.frames = some (env :: outer)) (hf : env.frame = some L) (hke : env.scope.kind = .function)
    (ho : K.lookup f = some ⟨oc, od, .func (fnOf name qual params body scope dV kV doc pm an cdv ct), osl⟩) (hcd : codeIn K cdv qual = true) (hroom : A.depth < recursionLimit)
    (hbind : BindsTo s (fnOf name qual params body scope dV kV doc pm an cdv ct) args binds) (hloc : ∀ y ∈ binds, scope.names.lookup y.1 = some .local)
    (h : ∀ g L' h₁, Fr h₀ L g m → Fr g L' h₁ (fun y => binds.reverse.lookup y) → News g L' h₁ news → Below A base (env :: outer) g → K.In g → Top p loose mean mg mb g → (∀ p ∈ news, p.1 < L') →
      wpAny (model prog w) (A.deeper (envOf qual scope L' f cdv)) (execs body (envOf qual scope L' f cdv))
        (fun fl s' => LeaveK h₀ L m g R (match fl with | .ret v => v | _ => .none) s')
        (fun e s' => wpAny (model prog w) (A.deeper (envOf qual scope L' f cdv)) (leaving (envOf qual scope L' f cdv) e) (fun _ s'' => R (.error e) s'') (fun e' s'' => R (.error e') s'') s')
        { s with heap := h₁, toks := s.toks + binds.length })
    (hco : scope.isCoroutine = false) (hgen : scope.isGenerator = false) (hk : scope.kind = .function)
    (hcell : ∀ x ∈ scope.names, x.2 ≠ .cell) : codeAny (model prog w) A (.call (.ref f) args) R s :=
  callX_plain (cl := []) B F N T.nolimit hA hf hke ((X₀.keeps F.keep) _ _ ho) rfl (codeRec_of (X₀.keeps F.keep) hcd) hroom hbind hloc (fun g L' h₁ FG F' N' B' st l => h g L' h₁ FG F' N' B' (X₀.keeps st) (T.keeps st) l) hcell hco hgen hk
theorem divmod_L {x y : Int} {t u : Tok} {Q : Value → Shared → Prop} (F : Fr h₀ L s.heap m) (N : News h₀ L s.heap news) (hy : y ≠ 0) (hs : y.natAbs < 1000000)
    (h : ∀ D h', Fr h₀ L h' m → News h₀ L h' ((D, { cls := .type "tuple", data := .seq #[.int (x.fdiv y) s.toks, .int (x.fmod y) (s.toks + 1)] }) :: news) → (∀ p ∈ news, p.1 < D) →
      Q (.ref D) { s with toks := s.toks + 1 + 1, heap := h' }) :
    wpAny (model prog w) A (call (.builtin "divmod") [.int x t, .int y u]) Q E s :=
  divmod_N F N hy (fun h' F' N' => h _ h' F' N' fun p hp => Heap.lt_size (N p hp).1) (Or.inl (PyProof.noPylong_small (by omega)))
end
end Mine
end
section
open PySem PySem.W PyProof.Rows PySem.Spec PySem.Calls
namespace Mine
theorem nat_and_low (n k : Nat) : n &&& (n / 2 ^ k * 2 ^ k) = n / 2 ^ k * 2 ^ k := by
  apply Nat.eq_of_testBit_eq
  intro i
  rw [Nat.testBit_and, Nat.testBit_mul_two_pow]
  by_cases h : k ≤ i
  · have h2 : (n / 2 ^ k).testBit (i - k) = n.testBit i := by
      rw [Nat.testBit_div_two_pow]
      congr 1
      omega
    simp [h, h2]
  · simp [h]
theorem xor_low {x : Int} (h : 0 ≤ x) (k : Nat) : Builtin.bitXor x (x.fdiv (2 ^ k) * 2 ^ k) = x - x.fdiv (2 ^ k) * 2 ^ k := by
  obtain ⟨n, rfl⟩ := Int.eq_ofNat_of_zero_le h
  have e : ((n : Int).fdiv (2 ^ k) * 2 ^ k) = ((n / 2 ^ k * 2 ^ k : Nat) : Int) := by
    rw [Int.fdiv_eq_ediv_of_nonneg _ (Int.pow_nonneg (by decide))]
    push_cast
    rfl
  rw [e]
  have a : Builtin.bitAnd (n : Int) ((n / 2 ^ k * 2 ^ k : Nat) : Int) = ((n &&& (n / 2 ^ k * 2 ^ k) : Nat) : Int) := by
    unfold Builtin.bitAnd
    have h1 : decide (0 ≤ (n : Int)) = true := by simp
    have h2 : decide (0 ≤ ((n / 2 ^ k * 2 ^ k : Nat) : Int)) = true := by
      rw [decide_eq_true_eq]; exact Int.natCast_nonneg _
    rw [h1, h2]
    rfl
  unfold Builtin.bitXor Builtin.bitOr
  have b : Builtin.bitNot (Builtin.bitAnd (Builtin.bitNot (n : Int)) (Builtin.bitNot ((n / 2 ^ k * 2 ^ k : Nat) : Int))) = ((n ||| (n / 2 ^ k * 2 ^ k) : Nat) : Int) := by
    unfold Builtin.bitAnd
    have h1 : decide (0 ≤ Builtin.bitNot (n : Int)) = false := by unfold Builtin.bitNot; rw [decide_eq_false_iff_not]; omega
    have h2 : decide (0 ≤ Builtin.bitNot ((n / 2 ^ k * 2 ^ k : Nat) : Int)) = false := by
      unfold Builtin.bitNot; rw [decide_eq_false_iff_not]
      have := Int.natCast_nonneg (n / 2 ^ k * 2 ^ k)
      omega
    rw [h1, h2]
    have q : ∀ m : Nat, (Builtin.bitNot (Builtin.bitNot (m : Int))).toNat = m := fun m => by unfold Builtin.bitNot; omega
    simp only [q]
    unfold Builtin.bitNot; omega
  rw [a, b, nat_and_low]
  have o : n ||| (n / 2 ^ k * 2 ^ k) = n := by
    apply Nat.eq_of_testBit_eq
    intro i
    have := congrArg (fun z => Nat.testBit z i) (nat_and_low n k)
    simp only [Nat.testBit_and] at this
    rw [Nat.testBit_or]
    cases h1 : n.testBit i <;> cases h2 : (n / 2 ^ k * 2 ^ k).testBit i <;> simp_all
  rw [o]
theorem xor16 {x : Int} (h : 0 ≤ x) : Builtin.bitXor x (x.fdiv 16 * 16) = x % 16 := by
  have := xor_low h 4
  have e : (2 : Int) ^ 4 = 16 := rfl
  rw [e, Int.fdiv_eq_ediv_of_nonneg _ (by decide)] at this
  rw [Int.fdiv_eq_ediv_of_nonneg _ (by decide), this]
  omega
theorem xor256 {x : Int} (h : 0 ≤ x) : Builtin.bitXor x (x.fdiv 256 * 256) = x % 256 := by
  have := xor_low h 8
  have e : (2 : Int) ^ 8 = 256 := rfl
  rw [e, Int.fdiv_eq_ediv_of_nonneg _ (by decide)] at this
  rw [Int.fdiv_eq_ediv_of_nonneg _ (by decide), this]
  omega
theorem fd16 (x : Int) : x.fdiv 16 = x / 16 := Int.fdiv_eq_ediv_of_nonneg _ (by decide)
end Mine
namespace Mine
theorem subR {h₀ h : Heap} {L : Addr} {x : Addr × Obj} {big led : List (Addr × Obj)} (N : News h₀ L h big) (hm : x ∈ big) (hs : ∀ p ∈ led, p ∈ big) : News h₀ L h (x :: led) := fun p hp => by
  rcases List.mem_cons.mp hp with rfl | hp
  · exact N _ hm
  · exact N p (hs p hp)
def IsI0 (o : Obj) : Prop := o = W.listOf #[] 0
def IsI1 (x : Int) (o : Obj) : Prop := ∃ t0, o = W.listOf #[.int x t0] 0
def IsI2 (x : Int) (o : Obj) : Prop := ∃ d0 d1 t0 t1, o = W.listOf #[.int d0 t0, .int d1 t1] 0 ∧ x = d0 + 16 * d1 ∧ 0 ≤ d0 ∧ d0 < 16 ∧ 0 ≤ d1 ∧ d1 < 16
def IsI3 (x : Int) (o : Obj) : Prop := ∃ d0 d1 d2 t0 t1 t2, o = W.listOf #[.int d0 t0, .int d1 t1, .int d2 t2] 0 ∧ x = d0 + 16 * d1 + 256 * d2 ∧ 0 ≤ d0 ∧ d0 < 16 ∧ 0 ≤ d1 ∧ d1 < 16 ∧ 0 ≤ d2 ∧ d2 < 16
end Mine
end
section
open PySem PySem.W PyProof.Rows PySem.Spec PySem.Calls
namespace Mine
theorem upN {h₀ h : Heap} {L : Addr} {x : Addr × Obj} {led led' : List (Addr × Obj)} (N : News h₀ L h led') (hm : x ∈ led) (hs : ∀ p ∈ led, p ∈ led' := by (intro p hp; repeat (first | exact hp | apply List.mem_cons_of_mem))) : News h₀ L h (x :: led') := fun p hp => by
  rcases List.mem_cons.mp hp with rfl | hp
  · exact N _ (hs _ hm)
  · exact N p hp
theorem dropN {h₀ h : Heap} {L : Addr} (k : Nat) {led : List (Addr × Obj)} (N : News h₀ L h led) : News h₀ L h (led.drop k) := fun p hp => N p (List.mem_of_mem_drop hp)
theorem dropN1 {h₀ h : Heap} {L : Addr} {x : Addr × Obj} (k : Nat) {led : List (Addr × Obj)} (N : News h₀ L h (x :: led)) : News h₀ L h (x :: led.drop k) := fun p hp => by
  rcases List.mem_cons.mp hp with rfl | hp
  · exact N _ List.mem_cons_self
  · exact N p (List.mem_cons_of_mem _ (List.mem_of_mem_drop hp))
theorem dropL {D : Addr} (k : Nat) {led : List (Addr × Obj)} (l : ∀ p ∈ led, p.1 < D) : ∀ p ∈ led.drop k, p.1 < D := fun p hp => l p (List.mem_of_mem_drop hp)
theorem ltFrom {d : Addr} {l : List (Addr × Obj)} (h : AllLt d l) : ∀ p ∈ l, p.1 < d := by
  induction l with
  | nil => intro p hp; cases hp
  | cons q r ih =>
    intro p hp
    rcases List.mem_cons.mp hp with rfl | hp
    · exact h.1
    · exact ih h.2 p hp
/-- one division -/
def DivR (x b q r : Int) : Prop := q = x / b ∧ r = x % b
theorem divR_of {x b : Int} (hb : 0 < b) : DivR x b (x.fdiv b) (x.fmod b) := ⟨Int.fdiv_eq_ediv_of_nonneg _ (by omega), Int.fmod_eq_emod_of_nonneg _ (by omega)⟩
theorem fdiv_bd {x b : Int} (hx : 0 ≤ x) (hb : 0 < b) : 0 ≤ x.fdiv b ∧ x.fdiv b ≤ x := by
  rw [Int.fdiv_eq_ediv_of_nonneg _ (by omega)]
  exact ⟨Int.ediv_nonneg hx (by omega), Int.ediv_le_self _ hx⟩
theorem fmod_bd {x b : Int} (hb : 0 < b) : 0 ≤ x.fmod b ∧ x.fmod b < b := by
  rw [Int.fmod_eq_emod_of_nonneg _ (by omega)]
  exact ⟨Int.emod_nonneg _ (by omega), Int.emod_lt_of_pos _ hb⟩
abbrev pairO (q r : Int) (t1 t2 : Tok) (c : Nat) : Obj := { cls := .type "tuple", data := .seq #[.int q t1, .int r t2] c }
end Mine
end
section
open PySem PySem.W PyProof.Rows PySem.Spec PySem.Calls
set_option maxRecDepth 100000
namespace Mine
/-- what of the caller's ledger stands in the ground of the callee -/
def Stand (g : Heap) (news : List (Addr × Obj)) : Prop := ∀ p ∈ news, g.get? p.1 = some p.2
def Beneath (L' : Addr) (news : List (Addr × Obj)) : Prop := ∀ p ∈ news, @LT.lt Nat _ p.1 L'
section
variable {prog : Program} {w : World} {A A₀ : Around} {s : Shared} {K : Frag} {L : Addr} {h₀ base : Heap} {m mg mb : Str → Option Value} {news : List (Addr × Obj)} {p : Program} {loose : List Str} {mean : ExcName → Option Value} {E : Value → Shared → Prop}
theorem enterS (sub : List (Addr × Obj)) {env : Env} {outer : List Env} {R : Result → Shared → Prop} {name qual : Str} {params : Arguments} {body : List Stmt} {scope : Scope} {dV kV doc pm cdv ct oc : Value} {an od : Option Addr} {osl : Array (Option Value)} {f : Addr} {args : Args} {binds : List (Str × Value)}
    (B : Below A₀ base outer h₀) (F : Fr h₀ L s.heap m) (X₀ : K.In h₀) (N : News h₀ L s.heap news) (hsub : ∀ q ∈ sub, q ∈ news) (T : Top p loose mean mg mb h₀) (hA : A.frames = some (env :: outer)) (hf : env.frame = some L) (hke : env.scope.kind = .function)
    (ho : K.lookup f = some ⟨oc, od, .func (fnOf name qual params body scope dV kV doc pm an cdv ct), osl⟩) (hcd : codeIn K cdv qual = true) (hroom : A.depth < recursionLimit)
    (hbind : BindsTo s (fnOf name qual params body scope dV kV doc pm an cdv ct) args binds) (hloc : ∀ y ∈ binds, scope.names.lookup y.1 = some .local)
    (h : ∀ g L' h₁, Fr h₀ L g m → Fr g L' h₁ (fun y => binds.reverse.lookup y) → News g L' h₁ sub → Below A base (env :: outer) g → K.In g → Top p loose mean mg mb g → (∀ p ∈ sub, p.1 < L') →
      (∀ q ∈ news, q ∈ sub ∨ g.get? q.1 = some q.2) → Beneath L' news →
      wpAny (model prog w) (A.deeper (envOf qual scope L' f cdv)) (execs body (envOf qual scope L' f cdv))
        (fun fl s' => LeaveK h₀ L m g R (match fl with | .ret v => v | _ => .none) s')
        (fun e s' => wpAny (model prog w) (A.deeper (envOf qual scope L' f cdv)) (leaving (envOf qual scope L' f cdv) e) (fun _ s'' => R (.error e) s'') (fun e' s'' => R (.error e') s'') s')
        { s with heap := h₁, toks := s.toks + binds.length })
    (hco : scope.isCoroutine = false) (hgen : scope.isGenerator = false) (hk : scope.kind = .function)
    (hcell : ∀ x ∈ scope.names, x.2 ≠ .cell) : codeAny (model prog w) A (.call (.ref f) args) R s := by
  have Ns : News h₀ L s.heap sub := fun q hq => N q (hsub q hq)
  obtain ⟨FG, BG, st, lv⟩ := groundX (R := R) B F Ns hA hf hke
  refine codeAny_call_def (fd := fnX name qual params body scope [] dV kV doc pm an cdv ct) (body := body) (binds := binds) hroom ((X₀.keeps F.keep) _ _ ho) rfl (T.nolimit.keeps F.keep) (codeRec_of (X₀.keeps F.keep) hcd) rfl hbind hcell hloc (fun h₁ hns hk₁ => ?_) hco hgen hk
  refine wpAny_mono (h _ s.heap.objs.size h₁ FG ⟨hns, fun b o e => hk₁ b o (of_hideAll _ e), Nat.le_of_eq (hideAll_size _ _)⟩
    (fun q hq => ⟨hk₁ _ _ (Ns q hq).1, Nat.ne_of_lt (Heap.lt_size (Ns q hq).1), hideAll_none _ (List.mem_map_of_mem hq)⟩) BG (X₀.keeps st) (T.keeps st) (fun q hq => Heap.lt_size (Ns q hq).1) (fun q hq => ?_) (fun q hq => Heap.lt_size (N q hq).1)) (fun fl s' hl => lv _ _ hl) fun _ _ y => y
  by_cases hm : q.1 ∈ sub.map (·.1)
  · obtain ⟨r, hr, e⟩ := List.mem_map.mp hm
    have e1 := (Ns r hr).1
    rw [e, (N q hq).1] at e1
    have : r = q := Prod.ext e (Option.some.inj e1).symm
    exact .inl (this ▸ hr)
  · exact .inr (hideAll_get _ (N q hq).1 hm)
/-- the end: the caller's whole ledger stands -/
theorem standAll {g h : Heap} {L' : Addr} {m' : Str → Option Value} {new sub : List (Addr × Obj)} {x : Addr × Obj} {s₀ : Heap} (N : News h₀ L s₀ news) (F' : Fr g L' h m') (hst : ∀ q ∈ news, q ∈ sub ∨ g.get? q.1 = some q.2) (N' : News h₀ L h new) (hx : x ∈ new) (hs : ∀ q ∈ sub, q ∈ new) :
    News h₀ L h (x :: news) := fun q hq => by
  rcases List.mem_cons.mp hq with rfl | hq
  · exact N' _ hx
  · rcases hst q hq with hm | e
    · exact N' q (hs q hm)
    · exact ⟨F'.keep _ _ e, (N q hq).2⟩
theorem standAll0 {g h : Heap} {L' : Addr} {m' : Str → Option Value} {new sub : List (Addr × Obj)} {s₀ : Heap} (N : News h₀ L s₀ news) (F' : Fr g L' h m') (hst : ∀ q ∈ news, q ∈ sub ∨ g.get? q.1 = some q.2) (N' : News h₀ L h new) (hs : ∀ q ∈ sub, q ∈ new) :
    News h₀ L h news := fun q hq => by
  rcases hst q hq with hm | e
  · exact N' q (hs q hm)
  · exact ⟨F'.keep _ _ e, (N q hq).2⟩
theorem standOver {g h : Heap} {L' : Addr} {m' : Str → Option Value} {new expl rest : List (Addr × Obj)} {s₀ : Heap} (N : News h₀ L s₀ news) (F' : Fr g L' h m') (hg : ∀ q ∈ rest, g.get? q.1 = some q.2) (hr : ∀ q ∈ rest, q ∈ news) (N' : News h₀ L h new) (hx : ∀ q ∈ expl, q ∈ new) :
    News h₀ L h (expl ++ rest) := fun q hq => by
  rcases List.mem_append.mp hq with hq | hq
  · exact N' q (hx q hq)
  · exact ⟨F'.keep _ _ (hg q hq), (N q (hr q hq)).2⟩
theorem restIn {g : Heap} {rest sub : List (Addr × Obj)} (hst : ∀ q ∈ news, q ∈ sub ∨ g.get? q.1 = some q.2) (hr : ∀ q ∈ rest, q ∈ news) (ho : ∀ q ∈ rest, ∀ x ∈ sub, q.1 ≠ x.1) : ∀ q ∈ rest, g.get? q.1 = some q.2 := fun q hq => by
  rcases hst q (hr q hq) with hm | e
  · exact absurd rfl (ho q hq q hm)
  · exact e
theorem freshNe {g h : Heap} {L' D : Addr} {o : Obj} {rest new : List (Addr × Obj)} (hg : ∀ q ∈ rest, g.get? q.1 = some q.2) (N' : News g L' h new) (hm : (D, o) ∈ new) : ∀ p ∈ rest, p.1 ≠ D := fun p hp e => by
  have h1 := hg p hp
  rw [e, (N' _ hm).2.2] at h1
  cases h1
theorem ltAll {L' D : Addr} (b : Beneath L' news) (h : @LT.lt Nat _ L' D) : ∀ p ∈ news, p.1 < D := fun p hp => Nat.lt_trans (b p hp) h
theorem newTuple_L {M : Model} {vs : List Value} {Q : Value → Shared → Prop} (F : Fr h₀ L s.heap m) (N : News h₀ L s.heap news)
    (h : ∀ D h', Fr h₀ L h' m → News h₀ L h' ((D, { cls := .type "tuple", data := .seq vs.toArray }) :: news) → (∀ p ∈ news, p.1 < D) → (@LT.lt Nat _ L D) → Q (.ref D) { s with heap := h' }) (hsz : vs.length ≤ sizeLine := by size_fits) :
    wpAny M A (newTuple vs) Q E s :=
  newTuple_N F N (fun h' F' N' => h _ h' F' N' (fun p hp => Heap.lt_size (N p hp).1) F.ns.lt) hsz
end
end Mine
end
section
namespace Mine
/-! a division figure by figure, to the base 16 -/
theorem divs1 {b x d0 q0 r0 : Int} (hb : b = 10 ∨ b = 11) (hx : x = d0) (f0 : DivR (0 * 2 ^ Int.toNat 4 + d0) b q0 r0) : DivR x b q0 r0 := by
  rw [show (0 : Int) * 2 ^ Int.toNat 4 + d0 = d0 by rw [Int.zero_mul, Int.zero_add]] at f0
  rw [hx]; exact f0
theorem divs2 {b x d0 d1 q1 r1 q0 r0 : Int} (hb : b = 10 ∨ b = 11) (hx : x = d0 + 16 * d1) (f1 : DivR (0 * 2 ^ Int.toNat 4 + d1) b q1 r1) (f0 : DivR (r1 * 2 ^ Int.toNat 4 + d0) b q0 r0) : DivR x b (q0 + 16 * q1) r0 := by
  simp only [DivR, Int.reduceToNat, Int.reducePow] at *
  rcases hb with rfl | rfl <;> omega
theorem divs3 {b x d0 d1 d2 q2 r2 q1 r1 q0 r0 : Int} (hb : b = 10 ∨ b = 11) (hx : x = d0 + 16 * d1 + 256 * d2) (f2 : DivR (0 * 2 ^ Int.toNat 4 + d2) b q2 r2) (f1 : DivR (r2 * 2 ^ Int.toNat 4 + d1) b q1 r1) (f0 : DivR (r1 * 2 ^ Int.toNat 4 + d0) b q0 r0) :
    DivR x b (q0 + 16 * q1 + 256 * q2) r0 := by
  simp only [DivR, Int.reduceToNat, Int.reducePow] at *
  rcases hb with rfl | rfl <;> omega
end Mine
end
section
open PySem PySem.W PyProof.Rows PySem.Spec PySem.Calls
set_option maxRecDepth 100000
namespace Mine
def dd (k f : Int) : Int := (if k % 2 = 1 then 2 * f else f) / 10 + (if k % 2 = 1 then 2 * f else f) % 10
def dstep (ns : List Int) (acc k : Int) : Int := acc + dd k (ns.getD ((ns.length : Int) - 1 - k).toNat 0)
def dsum (ns : List Int) : Int := (rangeKs 0 ns.length).foldl (dstep ns) 0
def luhn (ns : List Int) : Int := dsum ns % 10
end Mine
namespace Mine
theorem fm2 (k : Int) : k.fmod 2 = k % 2 := Int.fmod_eq_emod_of_nonneg _ (by decide)
theorem tbKeep_end {h₀ h' : Heap} {L : Addr} {δ : Type} {Rel : List (Addr × Obj) → Value → δ → Prop} {x y : Str} {stored : List Str} {m₀ m' : Str → Option Value} {news tl own all : List (Addr × Obj)} {d : δ} {s₁ : Shared} {tk : Nat} {v : Value}
    (F : Fr h₀ L h' m') (N : News h₀ L h' all) (hn : ∀ p ∈ news, p ∈ all) (ho : ∀ p ∈ own, p ∈ all) (hoff : TbOff own (news ++ tl)) (hy : m' y = some v) (hR : Rel news v d) (hm : ∀ z, z ≠ x → z ≠ y → stored.contains z = false → m' z = m₀ z) :
    TbEnd h₀ L (TbKeep Rel x y stored m₀ news d) own s₁ { s₁ with heap := h', toks := tk } :=
  ⟨h', tk, m', all, news, rfl, F, N, hn, ho, fun p hp q hq => hoff p hp q (List.mem_append_left _ hq), [], (List.append_nil _).symm, fun p hp => (nomatch hp), ⟨v, hy, by rw [List.append_nil]; exact hR⟩, hm⟩
theorem dd_bd {k f : Int} (h0 : 0 ≤ f) (h1 : f < 20) : 0 ≤ dd k f ∧ dd k f < 20 := by
  unfold dd
  split <;> omega
theorem dfold_bd (ns : List Int) (hb : ∀ i : Nat, 0 ≤ ns.getD i 0 ∧ ns.getD i 0 < 20) : ∀ (l : List Int) (a : Int), 0 ≤ a → 0 ≤ l.foldl (dstep ns) a ∧ l.foldl (dstep ns) a ≤ a + 20 * l.length
  | [], a, h => by simp only [List.foldl_nil, List.length_nil]; omega
  | k :: r, a, h => by
    rw [List.foldl_cons, List.length_cons]
    have h1 := dd_bd (k := k) (hb ((ns.length : Int) - 1 - k).toNat).1 (hb _).2
    have h2 : dstep ns a k = a + dd k (ns.getD ((ns.length : Int) - 1 - k).toNat 0) := rfl
    have h3 := dfold_bd ns hb r (dstep ns a k) (by omega)
    rw [h2] at h3 ⊢
    omega
theorem dsum_bd {ns : List Int} (hl : ns.length ≤ 12) (hb : ∀ i : Nat, 0 ≤ ns.getD i 0 ∧ ns.getD i 0 < 20) : 0 ≤ dsum ns ∧ dsum ns < 1000 := by
  have h := dfold_bd ns hb (rangeKs 0 ns.length) 0 (Int.le_refl 0)
  rw [rangeKs_length] at h
  unfold dsum
  omega
end Mine
namespace Mine
theorem intv {a b : Int} {t : Tok} (h : a = b) : ∃ t', Value.int a t = Value.int b t' := ⟨t, by rw [h]⟩
end Mine
namespace Mine
def pstep (ns : List Int) (k : Int) : Int := ((ns.length : Int) - k) * ns.getD k.toNat 0
def psum (ns : List Int) : Int := ((rangeKs 0 ns.length).map (pstep ns)).sum
def places (ns : List Int) : Int := psum ns % 11
end Mine
namespace Mine
theorem psum_bd {ns : List Int} (hl : ns.length ≤ 12) (hb : ∀ i : Nat, 0 ≤ ns.getD i 0 ∧ ns.getD i 0 < 20) : 0 ≤ psum ns ∧ psum ns < 4000 := by
  have key : ∀ (l : List Int), (∀ k ∈ l, 0 ≤ k ∧ k < (ns.length : Int)) → 0 ≤ (l.map (pstep ns)).sum ∧ (l.map (pstep ns)).sum ≤ 240 * l.length := by
    intro l
    induction l with
    | nil => intro _; simp
    | cons k r ih =>
      intro h
      have h1 := ih fun k hk => h k (List.mem_cons_of_mem _ hk)
      have h2 := h k List.mem_cons_self
      have h3 := hb k.toNat
      have h4 : 0 ≤ pstep ns k ∧ pstep ns k ≤ 240 := by
        unfold pstep
        constructor
        · exact Int.mul_nonneg (by omega) h3.1
        · have := Int.mul_le_mul (show (ns.length : Int) - k ≤ 12 by omega) (show ns.getD k.toNat 0 ≤ 20 by omega) h3.1 (by decide : (0 : Int) ≤ 12)
          omega
      rw [List.map_cons, List.sum_cons, List.length_cons]
      omega
  have h := key (rangeKs 0 ns.length) fun k hk => by
    have := mem_rangeKs hk
    omega
  rw [rangeKs_length] at h
  unfold psum
  omega
end Mine
namespace Mine
theorem rng_sz {n : Nat} (h : n ≤ 12) : ((n : Int) - 0).toNat ≤ sizeLine := by
  rw [PySem.sizeLine_eq]; omega
theorem rng_small {n : Nat} (h : n ≤ 12) : Builtin.Range.small 0 (n : Int) 1 = true := small_one (by omega) (by omega) (by omega) (by omega)
theorem rng_lt {n : Nat} {k : Int} (h : k < 0 + ((((n : Int) - 0).toNat : Nat) : Int)) : k < (n : Int) := by omega
theorem rng_n (n : Nat) : ((n : Int) - 0).toNat = n := by omega
end Mine
namespace Mine
def swapped (ns : List Int) (i j : Nat) : List Int := (ns.set i (ns.getD j 0)).set j (ns.getD i 0)
end Mine
end
section
open PySem PySem.W PyProof.Rows PySem.Spec PySem.Calls
set_option maxRecDepth 100000
namespace Mine
def VJ (x y : Str) (stored : List Str) (m₀ : Str → Option Value) (Rel : List (Addr × Obj) → Value → Prop) : (Str → Option Value) → List (Addr × Obj) → Prop :=
  fun m nx => (∃ v, m y = some v ∧ Rel nx v) ∧ ∀ z, z ≠ x → z ≠ y → stored.contains z = false → m z = m₀ z
section
variable {prog : Program} {w : World} {A : Around} {E : Value → Shared → Prop} {s : Shared} {h₀ : Heap}
theorem invV {env : Env} {body : List Stmt} {Q : Flow → Shared → Prop} {x : Str} {r : Addr} {a₀ b₀ : Int} {t₀ u₀ v₀ : Tok} {n : Nat} {m₀ : Str → Option Value} {news : List (Addr × Obj)} (y : Str) (stored : List Str) (Rel : Nat → List (Addr × Obj) → Value → Prop) {v0 : Value}
    (hh : A.handled = none) (hr : IsRange s.heap r a₀ b₀ 1 t₀ u₀ v₀) (hsmall : Builtin.Range.small a₀ b₀ 1 = true) (hn : Builtin.Range.rangeSize a₀ b₀ 1 = (n : Int)) (F : Fr h₀ env.locals s.heap m₀) (N : News h₀ env.locals s.heap news) (hy : m₀ y = some v0) (hR : Rel 0 news v0)
    (turn : ∀ (i : Nat) t v (u : Str → Option Value) nx h tk own, i < n → TbOff own nx → Rel i nx v → Fr h₀ env.locals h (fun z => if z = x then some (.int (a₀ + (i : Int)) t) else if z = y then some v else if stored.contains z then u z else m₀ z) → News h₀ env.locals h (nx ++ own) →
      wpAny (model prog w) A (execs body env) (TbPost h₀ env.locals (VJ x y stored m₀ (Rel (i + 1))) own { s with heap := h, toks := tk } Q) E { s with heap := h, toks := tk })
    (done : ∀ (u : Str → Option Value) v nx h tk, Rel n nx v → Fr h₀ env.locals h (fun z => if z = x then u z else if z = y then some v else if stored.contains z then u z else m₀ z) → News h₀ env.locals h nx → Q .next { s with heap := h, toks := tk }) :
    wpAny (model prog w) A (pyIter (.ref r)) (fun it s₂ => LoopAtV prog w A h₀ env x body Q E it s₂) E s := by
  refine tbr_invG (fun i m nx => VJ x y stored m₀ (Rel i) m nx) hh hr hsmall hn F N ⟨⟨v0, hy, hR⟩, fun _ _ _ _ => rfl⟩ ?_ ?_
  · rintro i k t m₁ nx h tk own hk hoff ⟨⟨v, hv, hRv⟩, hm⟩ F₁ N₁
    have hi : i < n := by
      have := (List.getElem?_eq_some_iff.mp hk).1
      rwa [rangeKs_length] at this
    have hkv : k = a₀ + (i : Int) := by
      have e : (rangeKs a₀ n)[i]? = some (a₀ + (i : Int)) := by simp [rangeKs, hi]
      rw [e] at hk; exact (Option.some.inj hk).symm
    subst hkv
    refine turn i t v m₁ nx h tk own hi hoff hRv ?_ N₁
    have e : (fun z => if z = x then some (Value.int (a₀ + (i : Int)) t) else m₁ z) = fun z => if z = x then some (Value.int (a₀ + (i : Int)) t) else if z = y then some v else if stored.contains z then m₁ z else m₀ z := by
      funext z
      by_cases h1 : z = x
      · simp [h1]
      · simp only [if_neg h1]
        by_cases h2 : z = y
        · subst h2; simp [hv]
        · simp only [if_neg h2]
          cases h3 : stored.contains z with
          | true => simp
          | false => simp only [Bool.false_eq_true, if_false]; exact hm z h1 h2 h3
    rw [e] at F₁
    exact F₁
  · rintro m₁ nx h tk ⟨⟨v, hv, hRv⟩, hm⟩ F₁ N₁
    refine done m₁ v nx h tk hRv ?_ N₁
    have e : m₁ = fun z => if z = x then m₁ z else if z = y then some v else if stored.contains z then m₁ z else m₀ z := by
      funext z
      by_cases h1 : z = x
      · simp [h1]
      · simp only [if_neg h1]
        by_cases h2 : z = y
        · subst h2; simp [hv]
        · simp only [if_neg h2]
          cases h3 : stored.contains z with
          | true => simp
          | false => simp only [Bool.false_eq_true, if_false]; exact hm z h1 h2 h3
    rw [e] at F₁
    exact F₁
theorem vj_end {h' : Heap} {L : Addr} {x y : Str} {stored : List Str} {m₀ m' : Str → Option Value} {Rel : List (Addr × Obj) → Value → Prop} {nx own all : List (Addr × Obj)} {s₁ : Shared} {tk : Nat} {v : Value}
    (F : Fr h₀ L h' m') (N : News h₀ L h' all) (hn : ∀ p ∈ nx, p ∈ all) (ho : ∀ p ∈ own, p ∈ all) (hoff : TbOff own nx) (hy : m' y = some v) (hR : Rel nx v) (hm : ∀ z, z ≠ x → z ≠ y → stored.contains z = false → m' z = m₀ z) :
    TbEnd h₀ L (VJ x y stored m₀ Rel) own s₁ { s₁ with heap := h', toks := tk } :=
  ⟨h', tk, m', all, nx, rfl, F, N, hn, ho, hoff, ⟨v, hy, hR⟩, hm⟩
end
/-- the two code tables, filled -/
structure Tabs (c1 c2 : Addr) (oc1 oc2 : Obj) (vs1 vs2 : Array Value) (tk1 tk2 : Tok) : Prop where
  d1 : oc1.data = .fields vs1
  v1 : vs1[1]? = some (.str (Str.ofString "_int2digits.<locals>.inner") tk1)
  d2 : oc2.data = .fields vs2
  v2 : vs2[1]? = some (.str (Str.ofString "_digits2int.<locals>.inner") tk2)
  o : (@LT.lt Nat _ 37 c1 ∧ @LT.lt Nat _ 37 c2 ∧ @LT.lt Nat _ 30 c1 ∧ @LT.lt Nat _ 30 c2) ∧ @LT.lt Nat _ c1 c2
abbrev tabsL (c1 c2 : Addr) (oc1 oc2 : Obj) : List (Addr × Obj) := [(37, tab2 c2), (c2, oc2), (30, tab1 c1), (c1, oc1)]
end Mine
end
section
open PySem PySem.W PyProof.Rows PySem.Spec PySem.Calls
set_option maxRecDepth 100000
set_option maxHeartbeats 4000000
namespace Mine
namespace BF
theorem mro : mroOf (.type "bytearray") = pure [.type "bytearray", .type "object"] := by rw [mroOf_type]; kernel_rfl
theorem lookup_new : typeLookup (.type "bytearray") "__new__" = pure (some (.builtin "bytearray.__new__")) := by rw [typeLookup_type, builtinLookup_eq_fast]; kernel_rfl
theorem slot_init : Slot "bytearray" "__init__" "bytearray.__init__" :=
  .of (owner := "bytearray") (n := "__init__") (by rw [typeLookup_type, builtinLookup_eq_fast]; kernel_rfl) (by decide +kernel) (by decide +kernel) (by decide +kernel)
    (by first | exact .inl (by decide +kernel) | exact .inr (by decide +kernel)) (by rw [isSubtype_type]; kernel_rfl)
theorem slot_set : Slot "bytearray" "__setitem__" "bytearray.__setitem__" :=
  .of (owner := "bytearray") (n := "__setitem__") (by rw [typeLookup_type, builtinLookup_eq_fast]; kernel_rfl) (by decide +kernel) (by decide +kernel) (by decide +kernel)
    (by first | exact .inl (by decide +kernel) | exact .inr (by decide +kernel)) (by rw [isSubtype_type]; kernel_rfl)
theorem called : TypeCalled "bytearray" "bytearray.__new__" "bytearray.__init__" :=
  ⟨by decide +kernel, by decide +kernel, ⟨_, _, mro⟩, madeBy_type mro lookup_new (by decide +kernel), by decide +kernel, by rw [isSubtype_type]; kernel_rfl, slot_init⟩
theorem typeCall (a : Value) : checkTypeCall "bytearray" ⟨[a], []⟩ = pure () := by kernel_rfl
theorem newCall (a : Value) : checkBuiltinCall "bytearray.__new__" ⟨[.type "bytearray", a], []⟩ = pure () := by kernel_rfl
theorem plain_new : plainId "bytearray.__new__" = true := by decide +kernel
theorem plain_init : plainId "bytearray.__init__" = true := by decide +kernel
theorem plain_set : plainId "bytearray.__setitem__" = true := by decide +kernel
theorem entry_new : entryFor table "bytearray.__new__" = some Builtin.«list.__new__» :=
  entryFor_alias (id' := "list.__new__") (by kernel_rfl) (by first | rfl | decide +kernel | (unfold String.splitOn; simp +decide [String.splitOnAux])) (by decide +kernel) (by kernel_rfl)
theorem entry_init : entryFor table "bytearray.__init__" = some Builtin.«bytearray.__init__» := by first | exact entryFor_of_fast (by kernel_rfl) | exact entryFor_of_tree (by kernel_rfl)
theorem entry_set : entryFor table "bytearray.__setitem__" = some Builtin.«bytearray.__setitem__» := by first | exact entryFor_of_fast (by kernel_rfl) | exact entryFor_of_tree (by kernel_rfl)
theorem args_init (a b : Value) : argsOk "bytearray.__init__" ⟨[a, b], []⟩ := by unfold argsOk; kernel_rfl
theorem args_set (a b c : Value) : argsOk "bytearray.__setitem__" ⟨[a, b, c], []⟩ := by unfold argsOk; kernel_rfl
theorem owner : ("bytearray.__new__".splitOn ".__new__").headD "" = "bytearray" := by simp +decide [String.splitOn, String.splitOnAux]
theorem bind_init (v : Value) : Builtin.Bytes.bindOptional "bytearray.__init__" "bytearray" ["source", "encoding", "errors"] [v] [] = pure [some v, none, none] := by kernel_rfl
theorem release : typeLookup (.type "bytearray") "__release_buffer__" = pure (some (.builtin "bytearray.__release_buffer__")) := by rw [typeLookup_type, builtinLookup_eq_fast]; kernel_rfl
theorem sub_self : isSubtype (.type "bytearray") (.type "bytearray") = pure true := by rw [isSubtype_type]; kernel_rfl
end BF
end Mine
end
section
open PySem PySem.W PyProof.Rows PySem.Spec PySem.Calls
set_option maxRecDepth 100000
set_option maxHeartbeats 4000000
namespace Mine
abbrev byO (b : Array UInt8) : Obj := { cls := .type "bytearray", data := .bytearray b }
section
variable {prog : Program} {w : World} {A : Around} {E : Value → Shared → Prop} {s : Shared}
theorem no_idx_int : typeLookup (.type "int") "__index__" = pure (some (.builtin "int.__index__")) := by rw [typeLookup_type, builtinLookup_eq_fast]; kernel_rfl
theorem code_new (a : Value) {Q₁ : Value → Shared → Prop}
    (h : Q₁ (.ref s.heap.objs.size) { s with heap := s.heap.push (byO #[]) }) :
    codeAny (model prog w) A (.call (.builtin "bytearray.__new__") ⟨[.type "bytearray", a], []⟩) (wants Q₁ E) s := by
  refine codeAny_of_tree ?_
  show wpAny _ A.in1 (do checkBuiltinCall "bytearray.__new__" ⟨[.type "bytearray", a], []⟩; again (.builtin "bytearray.__new__" ⟨[.type "bytearray", a], []⟩)) _ _ s
  refine wpAny_bind (wpAny_of_eq (BF.newCall a) (wpAny_pure ⟨plainId_quiet BF.plain_new _, codeAny_builtin_stack BF.entry_new rfl fun p st => ?_⟩))
  rw [Around.under_plainId BF.plain_new _]
  have hsub := BF.sub_self
  have hown := BF.owner
  obtain ⟨hp, g, d, tk, os⟩ := s
  simp only [hown]
  wp_walk
  exact h
theorem typeIs_by {D : Addr} {b : Array UInt8} (hD : s.heap.get? D = some (byO b)) : s.TypeIs (.ref D) "bytearray" := ⟨_, hD, rfl⟩
theorem ownRelease_by {D : Addr} {b : Array UInt8} {Q : Bool → Shared → Prop} (hD : s.heap.get? D = some (byO b)) (h : Q false s) : wpAny (model prog w) A (Builtin.Bytes.ownRelease (.ref D)) Q E s := by
  unfold Builtin.Bytes.ownRelease Builtin.Bytes.slotIsOwn
  refine wpAny_bind (wpAny_bind (wpAny_specialOf (typeIs_by hD) BF.release ?_))
  dsimp only
  refine bm_if_false (by decide +kernel) ?_
  have hd : ("bytearray.__release_buffer__" : String).dropRight ("__release_buffer__".length + 1) = "bytearray" := by decide +kernel
  rw [hd]
  refine wpAny_isInstance (typeIs_by hD) BF.sub_self ?_
  exact wpAny_pure h
theorem exported_by {D : Addr} {Q : Bool → Shared → Prop} (hg : A.guards = some []) (h : Q false s) : wpP (model prog w) A (Builtin.Bytes.exported (.ref D)) Q E s := by
  unfold Builtin.Bytes.exported
  refine wpP_stackAny_false hg (fun c p hc hn => ?_) (fun c hc => by cases hc) h
  cases c
  case builtin id args =>
    obtain ⟨pos, kw⟩ := args
    by_cases h1 : id = "bytearray.__contains__"
    · subst h1; exact absurd (show guardIds.contains "bytearray.__contains__" = false from hc) (by decide)
    by_cases h2 : id = "bytearray.__mod__"
    · subst h2; exact absurd (show guardIds.contains "bytearray.__mod__" = false from hc) (by decide)
    by_cases h3 : id = "bytearray.__rmod__"
    · subst h3; exact absurd (show guardIds.contains "bytearray.__rmod__" = false from hc) (by decide)
    by_cases h4 : id = "_struct.pack_into.held"
    · subst h4; exact absurd (show guardIds.contains "_struct.pack_into.held" = false from hc) (by decide)
    by_cases h5 : id = "bytearray.find.held"
    · subst h5; exact absurd (show guardIds.contains "bytearray.find.held" = false from hc) (by decide)
    delta Builtin.Bytes.exported.match_1
    refine (dif_neg h1).trans ((dif_neg h2).trans ((dif_neg h3).trans ((dif_neg h4).trans ((dif_neg h5).trans ?_))))
    cases pos with
    | nil => rfl
    | cons v t =>
      have h6 : (!Builtin.Bytes.decodersThatHold.contains id) = true := hn
      rw [Bool.not_eq_true'] at h6
      show (Builtin.Bytes.sameRef v (.ref D) && Builtin.Bytes.decodersThatHold.contains id) = false
      rw [h6, Bool.and_false]
  all_goals rfl
theorem wpP_iff {α : Type} {M : Model} {c : Prop} [Decidable c] {a b : Sem α} {Q : α → Shared → Prop} (hc : ¬ c) (h : wpP M A b Q E s) : wpP M A (if c then a else b) Q E s := by
  rw [if_neg hc]; exact h
theorem wpP_ift {α : Type} {M : Model} {c : Prop} [Decidable c] {a b : Sem α} {Q : α → Shared → Prop} (hc : c) (h : wpP M A a Q E s) : wpP M A (if c then a else b) Q E s := by
  rw [if_pos hc]; exact h
theorem write_by {D : Addr} {b : Array UInt8} {f : Array UInt8 → Array UInt8} {Q : Unit → Shared → Prop} (hD : s.heap.get? D = some (byO b)) (hz : (f b).size ≤ sizeLine)
    (h : ∀ h', h'.get? D = some (byO (f b)) → (∀ x, x ≠ D → h'.get? x = s.heap.get? x) → Q () { s with heap := h' }) : wpAny (model prog w) A (Builtin.Bytes.write (.ref D) f) Q E s := by
  show wpAny _ _ (updateBytearray D f) _ _ _
  unfold updateBytearray
  refine wpAny_bind (wpAny_load hD ?_)
  show wpAny _ _ (update D (Obj.mapBytearray f) >>= fun _ => lookBehind D) _ _ _
  refine wpAny_bind (wpAny_update hD ?_)
  have hS₂ : (s.heap.update D (Obj.mapBytearray f)).get? D = some (byO (f b)) := Heap.get?_update_self (Obj.mapBytearray f) hD rfl
  refine wpAny_lookBehind hS₂ ?_ ?_
  · show (if (f b).size > sizeLine then some "bytearray:memory" else none) = none
    rw [if_neg (Nat.not_lt.mpr hz)]
  · exact h _ hS₂ fun x hx => Heap.get?_update_ne _ _ _ _ (hx)
theorem init_P {D : Addr} {n : Int} {t : Tok} {K : Shared → Prop} (hg : A.guards = some []) (hD : s.heap.get? D = some (byO #[])) (h0 : 0 < n) (h1 : n < 100)
    (h : ∀ h', h'.get? D = some (byO (Array.replicate n.toNat 0)) → (∀ b, b ≠ D → h'.get? b = s.heap.get? b) → K { s with heap := h' }) :
    wpP (model prog w) A (Builtin.«bytearray.__init__» ⟨[.ref D, .int n t], []⟩) (fun fin s' => fin = .done (.ret .none) ∧ K s') E s := by
  unfold Builtin.«bytearray.__init__»
  dsimp only
  refine wpP_bind (wpP_of (ownRelease_by hD ?_))
  rw [if_neg (by decide)]
  refine wpP_of_eq (BF.bind_init _) ?_
  refine wpP_of_eq (a := ()) rfl ?_
  refine wpP_of_eq (a := ()) rfl ?_
  refine wpP_bind (wpP_bind (exported_by hg ?_))
  refine wpP_bind (wpP_of (wpAny_bind (wpAny_load hD ?_)))
  refine wpAny_pure (wpP_pure ?_)
  refine wpP_iff (by decide) ?_
  refine wpP_bind (wpP_of (write_by hD (by decide) fun h₁ hD₁ k₁ => ?_))
  dsimp only
  have hf : Builtin.Bytes.fitsIndex n = true := by
    unfold Builtin.Bytes.fitsIndex
    rw [Bool.and_eq_true, decide_eq_true_eq, decide_eq_true_eq]
    omega
  refine wpP_of_eq (a := none) rfl ?_
  refine wpP_iff (by decide) ?_
  refine wpP_iff (by rw [hf]; decide) ?_
  refine wpP_iff (by omega) ?_
  refine wpP_iff (by rw [beq_iff_eq]; omega) ?_
  refine wpP_iff (by unfold Builtin.Bytes.tooLong; rw [decide_eq_true_eq, PySem.sizeLine_eq]; omega) ?_
  refine wpP_bind (wpP_of (wpAny_rule ?_))
  refine wpP_ift (by omega) ?_
  refine wpP_bind (wpP_of (write_by hD₁ (by rw [Array.size_replicate, PySem.sizeLine_eq]; omega) fun h₂ hD₂ k₂ => ?_))
  refine wpP_pure ⟨rfl, h h₂ hD₂ fun x hx => (k₂ x hx).trans (k₁ x hx)⟩
theorem wpP_callSpecial {self : Value} {T : String} {name : Str} {id : String} {args : List Value} {kw : List (Str × Value)}
    {Q : Option Value → Shared → Prop} (hT : s.TypeIs self T) (h : Slot T name id)
    (hc : wpP (model prog w) A (call (.builtin id) (self :: args) kw) (fun v => Q (some v)) E s) : wpP (model prog w) A (callSpecial? self name args kw) Q E s := by
  simp only [callSpecial?]
  refine wpP_bind (wpP_of (wpAny_specialOf hT h.lookup ?_))
  simp only [h.bind]
  exact wpP_holding (wpP_bind (wpP_pure (wpP_bind (wpP_mono hc (fun v s' h' => wpP_pure h') fun _ _ h' => h'))))
/-- bytearray(n) -/
theorem new_by {n : Int} {t : Tok} {Q : Value → Shared → Prop} (hg : A.guards = some []) (h0 : 0 < n) (h1 : n < 100)
    (h : ∀ h', (∀ b o, s.heap.get? b = some o → h'.get? b = some o) → h'.get? s.heap.objs.size = some (byO (Array.replicate n.toNat 0)) → Q (.ref s.heap.objs.size) { s with heap := h' }) :
    wpP (model prog w) A (call (.type "bytearray") [.int n t]) Q E s := by
  refine wpP_call (codeP_of_tree rfl ?_)
  show wpP _ _ (callAny (.type "bytearray") _) _ _ _
  refine wpP_pure ⟨Code.quiet_builtin _ (by decide +kernel), codeP_builtin (show noDec (.builtin "type.__call__" _) = true from (by decide +kernel : (!Builtin.Bytes.decodersThatHold.contains "type.__call__") = true)) F.entry_type_call ?_⟩
  rw [Around.under_plain (weight_type_call_type "bytearray" [.int n t] []) rfl]
  unfold Builtin.«type.__call__»
  dsimp only
  refine wpP_iff (by decide) ?_
  refine wpP_iff (fun e => absurd (BF.called.canCreate.symm.trans e) (by decide)) ?_
  refine wpP_of_eq (BF.typeCall _) ?_
  refine wpP_of_eq BF.mro ?_
  refine wpP_iff (by decide) ?_
  refine wpP_of_eq BF.called.made ?_
  refine wpP_of_eq (a := .builtin "bytearray.__new__") rfl ?_
  refine wpP_bind (wpP_holding (wpP_of (wpAny_call (code_new (E := E) (.int n t) ?_))))
  refine wpP_bind (wpP_of (wpAny_isInstance (typeIs_by (s := { s with heap := s.heap.push (byO #[]) }) (b := #[]) (Heap.get?_push_size _ rfl)) BF.sub_self ?_))
  refine wpP_iff (by decide) ?_
  refine wpP_bind (wpP_holding (wpP_callSpecial (typeIs_by (s := { s with heap := s.heap.push (byO #[]) }) (b := #[]) (Heap.get?_push_size _ rfl)) BF.slot_init ?_))
  have hD : ({ s with heap := s.heap.push (byO #[]) } : Shared).heap.get? s.heap.objs.size = some (byO #[]) := Heap.get?_push_size _ rfl
  refine wpP_call (codeP_of_tree rfl ?_)
  show wpP _ A.in1.in1 (do checkBuiltinCall "bytearray.__init__" ⟨[.ref s.heap.objs.size, .int n t], []⟩; again (.builtin "bytearray.__init__" ⟨[.ref s.heap.objs.size, .int n t], []⟩)) _ _ _
  refine wpP_bind (wpP_of (BF.slot_init.check _ _ _ _ _ _ _ _ (typeIs_by hD) (BF.args_init _ _) ?_))
  refine wpP_pure ⟨plainId_quiet BF.plain_init _, codeP_builtin (show noDec (.builtin "bytearray.__init__" _) = true from (by decide +kernel : (!Builtin.Bytes.decodersThatHold.contains "bytearray.__init__") = true)) BF.entry_init ?_⟩
  rw [Around.under_plainId BF.plain_init]
  refine wpP_mono (init_P (K := fun s' => Q (.ref s.heap.objs.size) s') hg hD h0 h1 fun h' hD' hk => ?_) ?_ fun _ _ h' => h'
  · exact h h' (fun b o hb => (hk b (by rintro rfl; exact absurd (Heap.lt_size hb) (Nat.lt_irrefl _))).trans ((Heap.get?_push_of_some _ hb))) hD'
  · rintro fin s' ⟨rfl, hK⟩
    refine wpP_iff (by decide) ?_
    exact wpP_pure hK
end
end Mine
end
section
open PySem PySem.W PyProof.Rows PySem.Spec PySem.Calls
set_option maxRecDepth 100000
set_option maxHeartbeats 4000000
namespace Mine
namespace BF
theorem no_bytes : typeLookup (.type "bytearray") "__bytes__" = pure none := by rw [typeLookup_type, builtinLookup_eq_fast]; kernel_rfl
theorem noIndex : typeLookup (.type "bytearray") "__index__" = pure none := by rw [typeLookup_type, builtinLookup_eq_fast]; kernel_rfl
theorem buffer : typeLookup (.type "bytearray") "__buffer__" = pure (some (.builtin "bytearray.__buffer__")) := by rw [typeLookup_type, builtinLookup_eq_fast]; kernel_rfl
end BF
section
variable {prog : Program} {w : World} {A : Around} {E : Value → Shared → Prop} {s : Shared}
theorem ownBuffer_by {D : Addr} {b : Array UInt8} {Q : Bool → Shared → Prop} (hD : s.heap.get? D = some (byO b)) (h : Q true s) : wpAny (model prog w) A (Builtin.Bytes.slotIsOwn (.ref D) "__buffer__") Q E s := by
  unfold Builtin.Bytes.slotIsOwn
  refine wpAny_bind (wpAny_specialOf (typeIs_by hD) BF.buffer ?_)
  dsimp only
  refine bm_if_false (by decide +kernel) ?_
  have hd : ("bytearray.__buffer__" : String).dropRight ("__buffer__".length + 1) = "bytearray" := by decide +kernel
  rw [hd]
  refine wpAny_isInstance (typeIs_by hD) BF.sub_self ?_
  exact h
theorem payload_by {D : Addr} {b : Array UInt8} {Q : Array UInt8 → Shared → Prop} (hD : s.heap.get? D = some (byO b)) (h : Q b s) : wpAny (model prog w) A (Builtin.Bytes.payload (.ref D)) Q E s := by
  unfold Builtin.Bytes.payload Builtin.Bytes.payload?
  refine wpAny_bind (wpAny_bind (wpAny_load hD ?_))
  exact wpAny_pure (wpAny_pure h)
theorem buffer_by {D : Addr} {b : Array UInt8} {Q : Option (Array UInt8) → Shared → Prop} (hD : s.heap.get? D = some (byO b)) (h : Q (some b) s) : wpAny (model prog w) A (Builtin.Bytes.buffer? "bytes.__new__" (.ref D) true) Q E s := by
  unfold Builtin.Bytes.buffer?
  refine wpAny_bind (wpAny_specialOf (typeIs_by hD) BF.buffer ?_)
  dsimp only
  refine wpAny_bind (ownBuffer_by hD ?_)
  refine bm_if_false rfl ?_
  refine wpAny_bind (wpAny_specialOf (typeIs_by hD) BF.buffer ?_)
  refine wpAny_bind (ownRelease_by hD ?_)
  refine bm_if_false rfl ?_
  refine wpAny_bind (payload_by hD ?_)
  exact wpAny_pure h
theorem bytes_new_by {D : Addr} {b : Array UInt8} {Q : Value → Shared → Prop} (hD : s.heap.get? D = some (byO b)) (hz : b.size ≤ sizeLine)
    (hQ : ∀ t k, Q (.bytes b t) { s with toks := k }) :
    codeAny (model prog w) A (.call (.builtin "bytes.__new__") ⟨[.type "bytes", .ref D], []⟩) (wants Q E) s := by
  refine codeAny_of_tree ?_
  show wpAny _ A.in1 (do checkBuiltinCall "bytes.__new__" ⟨[.type "bytes", .ref D], []⟩; again (.builtin "bytes.__new__" ⟨[.type "bytes", .ref D], []⟩)) _ _ s
  refine wpAny_bind (wpAny_of_eq (F.bm_newCall _) (wpAny_pure ⟨plainId_quiet F.bm_plain _, codeAny_builtin F.bm_entry ?_⟩))
  rw [Around.under_plainId F.bm_plain _]
  have hT : s.TypeIs (.ref D) "bytearray" := typeIs_by hD
  unfold Builtin.«bytes.__new__»
  refine wpAny_bind (wpAny_of_eq (a := true) rfl ?_)
  refine bm_if_false rfl ?_
  refine wpAny_bind (wpAny_of_eq F.bm_sub ?_)
  refine bm_if_false rfl ?_
  refine wpAny_bind (wpAny_of_eq (F.bm_bind _) ?_)
  refine wpAny_bind (wpAny_of_eq (a := ()) rfl ?_)
  refine wpAny_bind (wpAny_of_eq (a := ()) rfl ?_)
  refine bm_if_false rfl ?_
  refine wpAny_bind (wpAny_specialOf hT BF.no_bytes ?_)
  refine wpAny_bind (wpAny_bind ?_)
  show wpAny _ _ (load D >>= _) _ _ _
  refine wpAny_bind (wpAny_load hD ?_)
  refine wpAny_pure (wpAny_pure ?_)
  refine bm_if_false rfl ?_
  refine wpAny_bind (wpAny_specialOf hT BF.noIndex ?_)
  refine bm_if_true rfl ?_
  first
    | show wpAny _ _ (Builtin.Bytes.buffer? "bytes.__new__" (.ref D) true >>= _) _ _ _
    | (refine wpAny_bind ?_; show wpAny _ _ (Builtin.Bytes.buffer? "bytes.__new__" (.ref D) true >>= _) _ _ _)
  refine wpAny_bind (buffer_by hD ?_)
  dsimp only
  refine wpAny_bind (wpAny_rule ?_)
  refine wpAny_bind (wpAny_mkBytes ?_ hz)
  first
    | exact wpAny_pure (hQ _ _)
    | exact wpAny_bind (wpAny_pure (wpAny_pure (hQ _ _)))
theorem bytes_by {D : Addr} {b : Array UInt8} {Q : Value → Shared → Prop} (hD : s.heap.get? D = some (byO b)) (hz : b.size ≤ sizeLine)
    (hQ : ∀ t k, Q (.bytes b t) { s with toks := k }) : wpAny (model prog w) A (call (.type "bytes") [.ref D]) Q E s := by
  refine callType_codes (Q₁ := fun obj s₁ => s₁.TypeIs obj "bytes" ∧ Q obj s₁) F.bm_called (F.bm_typeCall _) F.entry_object_init
    (bytes_new_by hD hz fun t k => ⟨PySem.W.typeIs_bytes _ _ _, hQ t k⟩) fun obj s₁ h₁ => ?_
  exact ⟨h₁.1, F.args_object_init_2 obj _, object_init_meets F.bm_called.init.lookup F.bm_called.made (by decide) prog w A.in1 _ s₁ ⟨h₁.1, rfl, h₁.2⟩⟩
theorem set_by {D : Addr} {b : Array UInt8} {k v : Int} {t tv : Tok} {Q : Unit → Shared → Prop} (hD : s.heap.get? D = some (byO b)) (h0 : 0 ≤ k) (h1 : k < b.size) (hz : b.size ≤ 1000) (v0 : 0 ≤ v) (v1 : v < 256)
    (h : ∀ h', h'.get? D = some (byO (b.setIfInBounds k.toNat v.toNat.toUInt8)) → (∀ x, x ≠ D → h'.get? x = s.heap.get? x) → Q () { s with heap := h' }) :
    wpAny (model prog w) A (setItem (.ref D) (.int k t) (.int v tv)) Q E s := by
  unfold setItem
  try with_reducible refine wpAny_holding ?_
  first | refine wpAny_bind (wpAny_pure ?_) | skip
  refine wpAny_bind (wpAny_sequenceKey (typeIs_by hD) (by decide) ?_)
  refine wpAny_bind (wpAny_callSpecial?_slot (name := Str.ofString "__setitem__") (typeIs_by hD) BF.slot_set
    (wpAny_call_entry BF.slot_set (typeIs_by hD) BF.entry_set ?_ (BF.args_set _ _ _)))
  unfold Builtin.«bytearray.__setitem__»
  dsimp only
  refine bm_if_false rfl ?_
  refine wpAny_bind ?_
  unfold Builtin.Bytes.subscript?
  refine wpAny_bind (wpAny_specialOf (typeIs_int _ k t) no_idx_int ?_)
  refine bm_if_false rfl ?_
  refine wpAny_bind (wpAny_of_eq (rfl : asIndex (.int k t) = pure k) ?_)
  refine bm_if_false (by
    unfold Builtin.Bytes.fitsIndex
    rw [Bool.not_eq_false', Bool.and_eq_true, decide_eq_true_eq, decide_eq_true_eq]
    omega) ?_
  refine wpAny_pure ?_
  refine wpAny_bind ?_
  unfold Builtin.Bytes.byteValue
  refine wpAny_bind (wpAny_of_eq (rfl : asIndex (.int v tv) = pure v) ?_)
  refine bm_if_false (by simp only [Bool.or_eq_false_iff, decide_eq_false_iff_not]; omega) ?_
  refine wpAny_pure ?_
  refine wpAny_bind (payload_by hD ?_)
  have e : (if k < 0 then k + (b.size : Int) else k) = k := if_neg (by omega)
  have hs : seqIndex? k b.size = some k.toNat := by
    unfold seqIndex?
    dsimp only
    rw [e, if_pos (by simp [h0, h1])]
  rw [hs]
  dsimp only
  refine wpAny_bind (write_by hD (by rw [Array.size_setIfInBounds, PySem.sizeLine_eq]; omega) fun h' hD' hk => ?_)
  exact wpAny_pure ⟨.none, rfl, wpAny_pure (h h' hD' hk)⟩
end
end Mine
end
section
open PySem PySem.W PyProof.Rows PySem.Spec PySem.Calls
set_option maxRecDepth 100000
set_option maxHeartbeats 4000000
namespace Mine
section
variable {M : Model} {A : Around} {E : Value → Shared → Prop} {s : Shared} {env : Env}
theorem wpP_execs_cons {st rest} {Q : Flow → Shared → Prop}
    (h : wpP M A (exec st env) (fun f s' => match f with | .next => wpP M A (execs rest env) Q E s' | f => Q f s') E s) :
    wpP M A (execs (st :: rest) env) Q E s := fun Γ p hΓ ok => by
  rw [execs_cons, Sem.wp_bind']
  refine Sem.wp_mono M Γ _ (fun f p' s' h' => ?_) (fun _ _ _ h' => h') _ _ (h Γ p hΓ ok)
  cases f <;> first | exact h' Γ p' hΓ ok | exact h'
theorem wpP_head {st rest} {Q : Flow → Shared → Prop}
    (h : wpAny M A (execs [st] env) (fun f s' => match f with | .next => wpP M A (execs rest env) Q E s' | f => Q f s') E s) :
    wpP M A (execs (st :: rest) env) Q E s := wpP_execs_cons (fun Γ p hΓ ok => by
  have := h Γ p hΓ
  rw [execs_cons, Sem.wp_bind'] at this
  refine Sem.wp_mono M Γ _ (fun f p' s' h' => ?_) (fun _ _ _ h' => h') _ _ this
  cases f <;> exact h')
theorem wpP_Assign_Name {x pos' value pos} {Q : Flow → Shared → Prop}
    (h : wpP M A (eval value env) (fun v s₁ => wpAny M A (storeName env x v) (fun _ => Q .next) E s₁) E s)
    (hs : swapsWith value (some (.Name x pos')) pos.line env = pure false := by rfl) :
    wpP M A (exec (.Assign [.Name x pos'] value pos) env) Q E s := fun Γ p hΓ ok => by
  simp only [exec_Assign_Name env x pos' value pos hs, Sem.wp_bind', Sem.wp_cmd_standAt, Sem.wp_bindName, Sem.wp_pure']
  exact Sem.wp_mono M Γ _ (fun v _ s₁ h₁ => h₁ Γ _ hΓ) (fun _ _ _ h' => h') _ _ (h Γ _ hΓ ok)
theorem wpP_callWith_type {pos : Pos} {T : String} {first : List Value} {args : List (Bool × Sem Value)} {Q : Value → Shared → Prop} (hplain : args.any (·.1) = false)
    (h : wpAny M A (evalArgs (.type T) true args []) (fun a s₁ => wpP M A (call (.type T) (first ++ a.pos) a.kw) Q E s₁) E s) :
    wpP M A (callWith pos (.type T) first args []) Q E s := by
  unfold callWith
  refine wpP_bind (wpP_holding (wpP_mono (wpP_of h) (fun a s₁ h₁ => wpP_bind (wpP_of (wpAny_standAt ?_))) fun _ _ x => x))
  simp only [hplain, List.any_nil, Bool.or_false]
  refine wpP_bind (wpP_pure ?_)
  exact wpP_bind (wpP_mono h₁ (fun r s₂ hr => wpP_of (wpAny_bind (wpAny_holding (wpAny_point (wpAny_pure hr))))) fun _ _ x => x)
theorem wpP_type1 {T : String} {t : Sem Value} {pos : Pos} {Q : Value → Shared → Prop} (h : wpAny M A t (fun v s₁ => wpP M A (call (.type T) [v]) Q E s₁) E s) : wpP M A (callWith pos (.type T) [] [(false, t)] []) Q E s :=
  wpP_callWith_type rfl (Calls.evalArgs_plain (Calls.spliced_cons (wpAny_mono h (fun _ _ h₁ => Calls.spliced_nil h₁) fun _ _ e => e)))
theorem wpP_callWith_function {pos : Pos} {a : Addr} {o : Obj} {fd : FuncData} {first : List Value} {args : List (Bool × Sem Value)} {keywords : List (Option Str × Sem Value)} {Q : Value → Shared → Prop}
    (h : wpAny M A (evalArgs (.ref a) true args keywords) (fun x s₁ => (s₁.heap.get? a = some o ∧ o.data = .func fd) ∧ wpP M A (call (.ref a) (first ++ x.pos) x.kw) Q E s₁) E s) :
    wpP M A (callWith pos (.ref a) first args keywords) Q E s := by
  unfold callWith
  refine wpP_bind (wpP_holding (wpP_mono (wpP_of h) (fun x s₁ h₁ => wpP_bind (wpP_of (wpAny_standAt ?_))) fun _ _ x => x))
  have tail : ∀ {t : Sem Value}, wpP M A t Q E s₁ → wpP M A (t >>= fun r => holding [r] point >>= fun _ => pure r) Q E s₁ :=
    fun ht => wpP_bind (wpP_mono ht (fun r s₂ hr => wpP_of (wpAny_bind (wpAny_holding (wpAny_point (wpAny_pure hr))))) fun _ _ x => x)
  cases hs : (args.any (·.1) || keywords.any (·.1.isNone)) <;>
    refine wpP_bind (wpP_of (t := keeperOf (.ref a)) ?_) <;> unfold keeperOf <;>
    refine wpAny_bind (wpAny_load h₁.1.1 ?_) <;> rw [h₁.1.2] <;> refine wpAny_pure ?_
  all_goals
    (try dsimp only)
    (try split)
    all_goals first
      | exact tail h₁.2
      | (refine tail ?_; unfold callMarked; exact wpP_keep h₁.2)
      | exact wpP_ift (by assumption) (tail h₁.2)
theorem wpP_Call {x : Str} {p pos : Pos} {args : List Expr} {trees : List (Bool × Sem Value)} {Q : Value → Shared → Prop} (ht : backTo pos (starEach args env) = trees)
    (h : wpAny M A (eval (.Name x p) env) (fun f s₁ => wpP M A (callWith pos f [] trees []) Q E s₁) E s) :
    wpP M A (eval (.Call (.Name x p) args [] pos) env) Q E s := by
  subst ht
  exact wpP_bind (wpP_of h)
theorem wpP_Call1 {x : Str} {p pos : Pos} {e : Expr} {Q : Value → Shared → Prop} (hs : starEach [e] env = [(false, eval e env)])
    (h : wpAny M A (eval (.Name x p) env) (fun f s₁ => wpP M A (callWith pos f [] [(false, eval e env)] []) Q E s₁) E s) :
    wpP M A (eval (.Call (.Name x p) [e] [] pos) env) Q E s := by
  show wpP M A (do callWith pos (← eval (.Name x p) env) [] (backTo pos (starEach [e] env)) (backToKw pos (keywordEach [] env))) Q E s
  rw [hs]
  exact wpP_bind (wpP_of h)
end
section
variable {prog : Program} {w : World} {A A₀ : Around} {s : Shared} {K : Frag} {L : Addr} {h₀ base : Heap} {m mg mb : Str → Option Value} {news : List (Addr × Obj)} {p : Program} {loose : List Str} {mean : ExcName → Option Value} {E : Value → Shared → Prop}
theorem codeP_call_def {R : Result → Shared → Prop} {a : Addr} {o : Obj} {fd : FuncData} {body : List Stmt} {args : Args} {binds : List (Str × Value)}
    (hroom : A.depth < recursionLimit) (ho : s.heap.get? a = some o) (hdata : o.data = .func fd) (hlim : s.heap.NoLimit) (hcd : s.heap.CodeRec fd.code fd.qualname)
    (hbody : fd.body = .stmts body) (hbind : BindsTo s fd args binds)
    (hcell : ∀ x ∈ fd.scope.names, x.2 ≠ .cell) (hloc : ∀ x ∈ binds, fd.scope.names.lookup x.1 = some .local)
    (h : ∀ h₀, h₀.Ns s.heap.objs.size (fun x => binds.reverse.lookup x) → (∀ b o, s.heap.get? b = some o → h₀.get? b = some o) →
      wpP (model prog w) (A.deeper (callEnv fd s.heap.objs.size a)) (execs body (callEnv fd s.heap.objs.size a)) (fun f s' => R (.ok (.ret (match f with | .ret v => v | _ => .none))) s')
        (fun e s' => wpAny (model prog w) (A.deeper (callEnv fd s.heap.objs.size a)) (leaving (callEnv fd s.heap.objs.size a) e) (fun _ s'' => R (.error e) s'') (fun e' s'' => R (.error e') s'') s')
        { s with heap := h₀, toks := s.toks + binds.length })
    (hco : fd.scope.isCoroutine = false := by rfl) (hgen : fd.scope.isGenerator = false := by rfl) (hk : fd.scope.kind = .function := by rfl) :
    codeP (model prog w) A (.call (.ref a) args) R s := by
  refine codeP_call_function hroom ho hdata hco hgen hbody hcd (hbind _ _ _ _ ?_)
  refine wpAny_newFunctionEnv hcell hloc (fun h₀ hns₀ hsb₀ => ⟨hlim.fresh _ hsb₀, codeP_func (h h₀ hns₀ fun b o e => ?_)⟩) hk
  exact hsb₀.extBut b o (Nat.ne_of_lt (Heap.lt_size e)) (Heap.get?_push_of_some _ e)
theorem enterP (sub : List (Addr × Obj)) {env : Env} {outer : List Env} {R : Result → Shared → Prop} {name qual : Str} {params : Arguments} {body : List Stmt} {scope : Scope} {dV kV doc pm cdv ct oc : Value} {an od : Option Addr} {osl : Array (Option Value)} {f : Addr} {args : Args} {binds : List (Str × Value)}
    (B : Below A₀ base outer h₀) (F : Fr h₀ L s.heap m) (X₀ : K.In h₀) (N : News h₀ L s.heap news) (hsub : ∀ q ∈ sub, q ∈ news) (T : Top p loose mean mg mb h₀) (hA : A.frames = some (env :: outer)) (hf : env.frame = some L) (hke : env.scope.kind = .function)
    (ho : K.lookup f = some ⟨oc, od, .func (fnOf name qual params body scope dV kV doc pm an cdv ct), osl⟩) (hcd : codeIn K cdv qual = true) (hroom : A.depth < recursionLimit)
    (hbind : BindsTo s (fnOf name qual params body scope dV kV doc pm an cdv ct) args binds) (hloc : ∀ y ∈ binds, scope.names.lookup y.1 = some .local)
    (h : ∀ g L' h₁, Fr h₀ L g m → Fr g L' h₁ (fun y => binds.reverse.lookup y) → News g L' h₁ sub → Below A base (env :: outer) g → K.In g → Top p loose mean mg mb g → (∀ p ∈ sub, p.1 < L') →
      (∀ q ∈ news, q ∈ sub ∨ g.get? q.1 = some q.2) → Beneath L' news →
      wpP (model prog w) (A.deeper (envOf qual scope L' f cdv)) (execs body (envOf qual scope L' f cdv))
        (fun fl s' => LeaveK h₀ L m g R (match fl with | .ret v => v | _ => .none) s')
        (fun e s' => wpAny (model prog w) (A.deeper (envOf qual scope L' f cdv)) (leaving (envOf qual scope L' f cdv) e) (fun _ s'' => R (.error e) s'') (fun e' s'' => R (.error e') s'') s')
        { s with heap := h₁, toks := s.toks + binds.length })
    (hco : scope.isCoroutine = false) (hgen : scope.isGenerator = false) (hk : scope.kind = .function)
    (hcell : ∀ x ∈ scope.names, x.2 ≠ .cell) : codeP (model prog w) A (.call (.ref f) args) R s := by
  have Ns : News h₀ L s.heap sub := fun q hq => N q (hsub q hq)
  obtain ⟨FG, BG, st, lv⟩ := groundX (R := R) B F Ns hA hf hke
  refine codeP_call_def (fd := fnX name qual params body scope [] dV kV doc pm an cdv ct) (body := body) (binds := binds) hroom ((X₀.keeps F.keep) _ _ ho) rfl (T.nolimit.keeps F.keep) (codeRec_of (X₀.keeps F.keep) hcd) rfl hbind hcell hloc (fun h₁ hns hk₁ => ?_) hco hgen hk
  refine wpP_mono (h _ s.heap.objs.size h₁ FG ⟨hns, fun b o e => hk₁ b o (of_hideAll _ e), Nat.le_of_eq (hideAll_size _ _)⟩
    (fun q hq => ⟨hk₁ _ _ (Ns q hq).1, Nat.ne_of_lt (Heap.lt_size (Ns q hq).1), hideAll_none _ (List.mem_map_of_mem hq)⟩) BG (X₀.keeps st) (T.keeps st) (fun q hq => Heap.lt_size (Ns q hq).1) (fun q hq => ?_) (fun q hq => Heap.lt_size (N q hq).1)) (fun fl s' hl => lv _ _ hl) fun _ _ y => y
  by_cases hm : q.1 ∈ sub.map (·.1)
  · obtain ⟨r, hr, e⟩ := List.mem_map.mp hm
    have e1 := (Ns r hr).1
    rw [e, (N q hq).1] at e1
    have : r = q := Prod.ext e (Option.some.inj e1).symm
    exact .inl (this ▸ hr)
  · exact .inr (hideAll_get _ (N q hq).1 hm)
/-- bytearray(n), with the ledger -/
theorem new_by_K {n : Int} {t : Tok} {Q : Value → Shared → Prop} (hg : A.guards = some []) (F : Fr h₀ L s.heap m) (N : News h₀ L s.heap news) (h0 : 0 < n) (h1 : n < 100)
    (h : ∀ D h', Fr h₀ L h' m → News h₀ L h' ((D, byO (Array.replicate n.toNat 0)) :: news) → (∀ p ∈ news, p.1 < D) → Q (.ref D) { s with heap := h' }) :
    wpP (model prog w) A (call (.type "bytearray") [.int n t]) Q E s :=
  new_by hg h0 h1 fun h' hk hD => h _ h' (F.keptAll hk) (fun p hp => by
    rcases List.mem_cons.mp hp with rfl | hp
    · refine ⟨hD, fun e => ?_, ?_⟩
      · exact absurd F.ns.lt (e ▸ Nat.lt_irrefl _)
      · exact next_is_new F
    · exact ⟨hk _ _ (N p hp).1, (N p hp).2⟩) fun p hp => Heap.lt_size (N p hp).1
theorem set_by_K {D : Addr} {b : Array UInt8} {k v : Int} {t tv : Tok} {Q : Unit → Shared → Prop} (F : Fr h₀ L s.heap m) (N : News h₀ L s.heap ((D, byO b) :: news)) (hne : ∀ p ∈ news, p.1 ≠ D) (h0 : 0 ≤ k) (h1 : k < b.size) (hz : b.size ≤ 1000) (v0 : 0 ≤ v) (v1 : v < 256)
    (h : ∀ h', Fr h₀ L h' m → News h₀ L h' ((D, byO (b.setIfInBounds k.toNat v.toNat.toUInt8)) :: news) → Q () { s with heap := h' }) :
    wpAny (model prog w) A (setItem (.ref D) (.int k t) (.int v tv)) Q E s := by
  have z := N _ (List.mem_cons_self)
  refine set_by z.1 h0 h1 hz v0 v1 fun h' hD hk => h h' ?_ fun p hp => ?_
  · obtain ⟨oL, es, ep, hL, r⟩ := F.ns
    exact ⟨⟨oL, es, ep, (hk L (Ne.symm z.2.1)).trans hL, r⟩, fun b o e => (hk b (fun q => by rw [q] at e; rw [z.2.2] at e; cases e)).trans (F.keep b o e), F.above⟩
  · rcases List.mem_cons.mp hp with rfl | hp
    · exact ⟨hD, z.2⟩
    · exact ⟨(hk _ (hne p hp)).trans (N p (List.mem_cons_of_mem _ hp)).1, (N p (List.mem_cons_of_mem _ hp)).2⟩
theorem invC {env : Env} {x : Str} {body : List Stmt} {Q : Flow → Shared → Prop} {r : Addr} {a₀ b₀ c₀ : Int} {t₀ u₀ v₀ : Tok} {n : Nat} {m₀ : Str → Option Value} {news : List (Addr × Obj)} (J : Nat → (Str → Option Value) → List (Addr × Obj) → Prop)
    (hh : A.handled = none) (hr : IsRange s.heap r a₀ b₀ c₀ t₀ u₀ v₀) (hsmall : Builtin.Range.small a₀ b₀ c₀ = true) (hn : Builtin.Range.rangeSize a₀ b₀ c₀ = (n : Int)) (F : Fr h₀ env.locals s.heap m₀) (N : News h₀ env.locals s.heap news) (hj : J 0 m₀ news)
    (turn : ∀ (i : Nat) t m₁ nx h tk own, i < n → TbOff own nx → J i m₁ nx → Fr h₀ env.locals h (fun y => if y = x then some (.int (a₀ + i * c₀) t) else m₁ y) → News h₀ env.locals h (nx ++ own) →
      wpAny (model prog w) A (execs body env) (TbPost h₀ env.locals (J (i + 1)) own { s with heap := h, toks := tk } Q) E { s with heap := h, toks := tk })
    (done : ∀ m₁ nx h tk, J n m₁ nx → Fr h₀ env.locals h m₁ → News h₀ env.locals h nx → Q .next { s with heap := h, toks := tk }) :
    wpAny (model prog w) A (pyIter (.ref r)) (fun it s₂ => LoopAtV prog w A h₀ env x body Q E it s₂) E s := by
  refine wpAny_pyIter_range hr hsmall ?_
  have W : Walks prog w A s.heap.objs.size [s.heap.objs.size] [s.heap.objs.size] n (fun i v => i < n ∧ ∃ t, v = .int (a₀ + i * c₀) t)
      (fun i h => IsRangeIter h s.heap.objs.size (a₀ + (i : Nat) * c₀) ((n : Int) - (i : Nat)) c₀) := (Walks.range hh _ a₀ c₀ n).bound
  refine tbr_loop J W (fun _ h => h) (fun _ h => h) ?_ ?_ ?_ ?_ (by show IsRangeIter _ _ _ _ _; rw [hn]; simpa using Heap.get?_push_size _ rfl) (F.push _) (fun p hp => ⟨Heap.get?_push_of_some _ (N p hp).1, (N p hp).2⟩) hj ?_ ?_
  · intro i h hi b hb
    rw [List.mem_singleton.mp hb]
    exact ⟨_, hi⟩
  · intro hm
    exact absurd F.ns.lt ((List.mem_singleton.mp hm) ▸ Nat.lt_irrefl _)
  · intro b hb
    rw [List.mem_singleton.mp hb]
    exact next_is_new F
  · intro p hp hI
    exact absurd (Heap.lt_size (N p hp).1) ((List.mem_singleton.mp hI) ▸ Nat.lt_irrefl _)
  · rintro i v m₁ nx h tk own hi ⟨_, t, rfl⟩ hoff hJ F₁ N₁
    exact turn i t m₁ nx h tk own hi hoff hJ F₁ N₁
  · exact done
end
end Mine
end
section
open PySem PySem.W PyProof.Rows PySem.Spec PySem.Calls
set_option maxRecDepth 100000
namespace Mine
def K2 (x y : Str) (m₀ : Str → Option Value) (l : List (Addr × Obj)) : (Str → Option Value) → List (Addr × Obj) → Prop := fun m nx => nx = l ∧ ∀ z, z ≠ x → z ≠ y → m z = m₀ z
section
variable {prog : Program} {w : World} {A : Around} {E : Value → Shared → Prop} {s : Shared} {h₀ : Heap}
theorem invT {env : Env} {body : List Stmt} {Q : Flow → Shared → Prop} {r : Addr} {a₀ b₀ c₀ : Int} {t₀ u₀ v₀ : Tok} {n : Nat} {m₀ : Str → Option Value} (x y : Str) (Ld : Nat → List (Addr × Obj))
    (hh : A.handled = none) (hr : IsRange s.heap r a₀ b₀ c₀ t₀ u₀ v₀) (hsmall : Builtin.Range.small a₀ b₀ c₀ = true) (hn : Builtin.Range.rangeSize a₀ b₀ c₀ = (n : Int)) (F : Fr h₀ env.locals s.heap m₀) (N : News h₀ env.locals s.heap (Ld 0))
    (turn : ∀ (i : Nat) t (u : Str → Option Value) h tk own, i < n → TbOff own (Ld i) → Fr h₀ env.locals h (fun z => if z = x then some (.int (a₀ + i * c₀) t) else if z = y then u z else m₀ z) → News h₀ env.locals h (Ld i ++ own) →
      wpAny (model prog w) A (execs body env) (TbPost h₀ env.locals (K2 x y m₀ (Ld (i + 1))) own { s with heap := h, toks := tk } Q) E { s with heap := h, toks := tk })
    (done : ∀ (u : Str → Option Value) h tk, Fr h₀ env.locals h (fun z => if z = x then u z else if z = y then u z else m₀ z) → News h₀ env.locals h (Ld n) → Q .next { s with heap := h, toks := tk }) :
    wpAny (model prog w) A (pyIter (.ref r)) (fun it s₂ => LoopAtV prog w A h₀ env x body Q E it s₂) E s := by
  refine invC (fun i m nx => K2 x y m₀ (Ld i) m nx) hh hr hsmall hn F N ⟨rfl, fun _ _ _ => rfl⟩ ?_ ?_
  · rintro i t m₁ nx h tk own hi hoff ⟨rfl, hm⟩ F₁ N₁
    refine turn i t m₁ h tk own hi hoff ?_ N₁
    have e : (fun z => if z = x then some (Value.int (a₀ + i * c₀) t) else m₁ z) = fun z => if z = x then some (Value.int (a₀ + i * c₀) t) else if z = y then m₁ z else m₀ z := by
      funext z
      by_cases h1 : z = x
      · simp [h1]
      · simp only [if_neg h1]
        by_cases h2 : z = y
        · simp [h2]
        · simp only [if_neg h2]; exact hm z h1 h2
    rw [e] at F₁
    exact F₁
  · rintro m₁ nx h tk ⟨rfl, hm⟩ F₁ N₁
    refine done m₁ h tk ?_ N₁
    have e : m₁ = fun z => if z = x then m₁ z else if z = y then m₁ z else m₀ z := by
      funext z
      by_cases h1 : z = x
      · simp [h1]
      · simp only [if_neg h1]
        by_cases h2 : z = y
        · simp [h2]
        · simp only [if_neg h2]; exact hm z h1 h2
    rw [e] at F₁
    exact F₁
theorem k2_end {h' : Heap} {L : Addr} {x y : Str} {m₀ m' : Str → Option Value} {ld own all : List (Addr × Obj)} {s₁ : Shared} {tk : Nat}
    (F : Fr h₀ L h' m') (N : News h₀ L h' all) (hn : ∀ p ∈ ld, p ∈ all) (ho : ∀ p ∈ own, p ∈ all) (hoff : TbOff own ld) (hm : ∀ z, z ≠ x → z ≠ y → m' z = m₀ z) :
    TbEnd h₀ L (K2 x y m₀ ld) own s₁ { s₁ with heap := h', toks := tk } :=
  ⟨h', tk, m', all, ld, rfl, F, N, hn, ho, hoff, rfl, hm⟩
end
def bsA (b : Array UInt8) (j : Nat) : Array UInt8 := ((List.range b.size).map fun k => if b.size - 1 - k < j then b.getD (b.size - 1 - k) 0 else 0).toArray
theorem bsA_size (b : Array UInt8) (j : Nat) : (bsA b j).size = b.size := by simp [bsA]
theorem bsA_zero (b : Array UInt8) : Array.replicate b.size 0 = bsA b 0 := by
  apply Array.ext
  · simp [bsA]
  · intro i h1 h2
    simp [bsA]
theorem bsA_step {b : Array UInt8} {j : Nat} (hj : j < b.size) : (bsA b j).setIfInBounds (b.size - 1 - j) (b.getD j 0) = bsA b (j + 1) := by
  apply Array.ext
  · simp [bsA]
  · intro i h1 h2
    have hi : i < b.size := by simpa [bsA] using h2
    rw [Array.getElem_setIfInBounds (by simpa [bsA] using hi)]
    by_cases e : b.size - 1 - j = i
    · rw [if_pos e]
      simp only [bsA, List.getElem_toArray, List.getElem_map, List.getElem_range]
      rw [if_pos (by omega), show b.size - 1 - i = j by omega]
    · rw [if_neg e]
      simp only [bsA, List.getElem_toArray, List.getElem_map, List.getElem_range]
      by_cases h3 : b.size - 1 - i < j
      · rw [if_pos h3, if_pos (by omega)]
      · rw [if_neg h3, if_neg (by omega)]
theorem bsA_end {b : Array UInt8} {ks : List Int} (hk : KBw.bInts b = ks) : KBw.bInts (bsA b b.size) = ks.reverse := by
  subst hk
  apply List.ext_getElem
  · rw [KBw.ints_length, bsA_size, List.length_reverse, KBw.ints_length]
  · intro i h1 h2
    have hi : i < b.size := by rw [KBw.ints_length, bsA_size] at h1; exact h1
    rw [List.getElem_reverse]
    simp only [KBw.bInts, bsA, List.getElem_map, List.getElem_range, List.length_map, Array.length_toList]
    rw [if_pos (by omega)]
    congr 2
    simp [Array.getD, show b.size - 1 - i < b.size by omega]
theorem bs_byte {b : Array UInt8} {ks : List Int} (hk : KBw.bInts b = ks) {j : Nat} (hj : j < b.size) : (ks.getD j 0).toNat.toUInt8 = b.getD j 0 ∧ 0 ≤ ks.getD j 0 ∧ ks.getD j 0 < 256 := by
  subst hk
  have e : (KBw.bInts b).getD j 0 = ((b.getD j 0).toNat : Int) := by
    simp [KBw.bInts, Array.getD, List.getD_eq_getElem?_getD, hj]
  rw [e]
  refine ⟨?_, by omega, ?_⟩
  · simp
  · have := (b.getD j 0).toNat_lt
    omega
theorem upto12 {p : Nat → Prop} (key : ∀ i : Fin 12, p (i.val + 1)) {n : Nat} (h0 : 0 < n) (h : n ≤ 12) : p n := by
  have := key ⟨n - 1, by omega⟩
  rwa [show (⟨n - 1, by omega⟩ : Fin 12).val + 1 = n from Nat.sub_add_cancel h0] at this
theorem bs_small {n : Nat} (h0 : 0 < n) (h : n ≤ 12) : Builtin.Range.small 0 (n : Int) (n : Int) = true :=
  upto12 (p := fun n => Builtin.Range.small 0 (n : Int) (n : Int) = true) (by decide) h0 h
theorem bs_one {n : Nat} (h0 : 0 < n) (h : n ≤ 12) : Builtin.Range.rangeSize 0 (n : Int) (n : Int) = ((1 : Nat) : Int) :=
  upto12 (p := fun n => Builtin.Range.rangeSize 0 (n : Int) (n : Int) = ((1 : Nat) : Int)) (by decide) h0 h
end Mine
end
section
open PySem PySem.W PyProof.Rows PySem.Spec PySem.Calls
set_option maxRecDepth 100000
namespace Mine
/-! the plain law: what the two sums answer -/
def W : List Int → Int
  | [] => 0
  | f :: t => dd (t.length : Int) f + W t
def P : List Int → Int
  | [] => 0
  | f :: t => ((t.length : Int) + 1) * f + P t
theorem foldl_dstep (ns : List Int) : ∀ (l : List Int) (a : Int), l.foldl (dstep ns) a = a + (l.map fun k => dd k (ns.getD ((ns.length : Int) - 1 - k).toNat 0)).sum
  | [], a => by simp
  | k :: r, a => by
    rw [List.foldl_cons, foldl_dstep ns r, List.map_cons, List.sum_cons]
    unfold dstep
    omega
theorem dsum_W (ns : List Int) : dsum ns = W ns := by
  unfold dsum
  rw [foldl_dstep, Int.zero_add]
  induction ns with
  | nil => rfl
  | cons f t ih =>
    show _ = dd (t.length : Int) f + W t
    rw [← ih]
    unfold rangeKs
    rw [List.length_cons, List.range_succ, List.map_append, List.map_append, List.sum_append]
    have e1 : (List.map (fun k => dd k ((f :: t).getD (((t.length + 1 : Nat) : Int) - 1 - k).toNat 0)) (List.map (fun (i : Nat) => 0 + (i : Int)) [t.length])).sum = dd (t.length : Int) f := by
      simp only [List.map_cons, List.map_nil, List.sum_cons, List.sum_nil, Int.zero_add, Int.add_zero]
      rw [show (((t.length + 1 : Nat) : Int) - 1 - (t.length : Int)).toNat = 0 by omega]
      rfl
    rw [e1, Int.add_comm]
    congr 2
    rw [List.map_map, List.map_map]
    apply List.map_congr_left
    intro i hi
    have hi' := List.mem_range.mp hi
    simp only [Function.comp_apply]
    rw [show (((t.length + 1 : Nat) : Int) - 1 - (0 + (i : Int))).toNat = (t.length - 1 - i) + 1 by omega, show ((t.length : Int) - 1 - (0 + (i : Int))).toNat = t.length - 1 - i by omega]
    rfl
theorem psum_P (ns : List Int) : psum ns = P ns := by
  unfold psum
  induction ns with
  | nil => rfl
  | cons f t ih =>
    show _ = ((t.length : Int) + 1) * f + P t
    rw [← ih]
    unfold rangeKs
    rw [List.length_cons, List.range_succ_eq_map, List.map_cons, List.map_cons, List.sum_cons]
    congr 1
    rw [List.map_map, List.map_map, List.map_map]
    congr 1
    apply List.map_congr_left
    intro i hi
    simp only [Function.comp_apply, pstep, List.length_cons]
    rw [show (0 + ((i.succ : Nat) : Int)).toNat = i + 1 by omega, show (0 + (i : Int)).toNat = i by omega]
    show _ * t.getD i 0 = _
    congr 1
    omega
theorem W_set : ∀ (l : List Int) (i : Nat) (f : Int), i < l.length → W (l.set i f) = W l + dd ((l.length : Int) - 1 - i) f - dd ((l.length : Int) - 1 - i) (l.getD i 0)
  | [], i, f, h => absurd h (Nat.not_lt_zero _)
  | a :: t, 0, f, _ => by
    show dd (t.length : Int) f + W t = dd (t.length : Int) a + W t + dd (((t.length + 1 : Nat) : Int) - 1 - ((0 : Nat) : Int)) f - dd (((t.length + 1 : Nat) : Int) - 1 - ((0 : Nat) : Int)) a
    rw [show ((t.length + 1 : Nat) : Int) - 1 - ((0 : Nat) : Int) = t.length by omega]
    omega
  | a :: t, i + 1, f, h => by
    have ih := W_set t i f (Nat.lt_of_succ_lt_succ h)
    show dd ((t.set i f).length : Int) a + W (t.set i f) = dd (t.length : Int) a + W t + dd (((t.length + 1 : Nat) : Int) - 1 - ((i + 1 : Nat) : Int)) f - dd (((t.length + 1 : Nat) : Int) - 1 - ((i + 1 : Nat) : Int)) (t.getD i 0)
    rw [List.length_set, ih, show ((t.length + 1 : Nat) : Int) - 1 - ((i + 1 : Nat) : Int) = (t.length : Int) - 1 - i by omega]
    omega
theorem P_set : ∀ (l : List Int) (i : Nat) (f : Int), i < l.length → P (l.set i f) = P l + ((l.length : Int) - i) * (f - l.getD i 0)
  | [], i, f, h => absurd h (Nat.not_lt_zero _)
  | a :: t, 0, f, _ => by
    show ((t.length : Int) + 1) * f + P t = ((t.length : Int) + 1) * a + P t + (((t.length + 1 : Nat) : Int) - ((0 : Nat) : Int)) * (f - a)
    rw [show ((t.length + 1 : Nat) : Int) - ((0 : Nat) : Int) = (t.length : Int) + 1 by omega, Int.mul_sub]
    omega
  | a :: t, i + 1, f, h => by
    have ih := P_set t i f (Nat.lt_of_succ_lt_succ h)
    show (((t.set i f).length : Int) + 1) * a + P (t.set i f) = ((t.length : Int) + 1) * a + P t + (((t.length + 1 : Nat) : Int) - ((i + 1 : Nat) : Int)) * (f - t.getD i 0)
    rw [List.length_set, ih, show ((t.length + 1 : Nat) : Int) - ((i + 1 : Nat) : Int) = (t.length : Int) - i by omega]
    omega
theorem P_snoc : ∀ (t : List Int) (f : Int), P (t ++ [f]) = P t + t.sum + f
  | [], f => by simp [P]
  | a :: t, f => by
    have ih := P_snoc t f
    show (((t ++ [f]).length : Int) + 1) * a + P (t ++ [f]) = ((t.length : Int) + 1) * a + P t + (a :: t).sum + f
    rw [ih, List.sum_cons, List.length_append, List.length_singleton, show (((t.length + 1 : Nat) : Int) + 1) = ((t.length : Int) + 1) + 1 by omega, Int.add_mul _ 1 a]
    omega
theorem sum_rev (t : List Int) : t.reverse.sum = t.sum := by
  induction t with
  | nil => rfl
  | cons a t ih => 
    rw [List.reverse_cons, List.sum_append, ih, List.sum_cons, List.sum_cons, List.sum_nil]
    omega
theorem P_rev : ∀ (t : List Int), P t.reverse + P t = t.sum * ((t.length : Int) + 1)
  | [] => by simp [P]
  | a :: t => by
    have ih := P_rev t
    rw [List.reverse_cons, P_snoc, sum_rev, List.sum_cons, List.length_cons]
    show P t.reverse + t.sum + a + (((t.length : Int) + 1) * a + P t) = (a + t.sum) * (((t.length + 1 : Nat) : Int) + 1)
    rw [show (((t.length + 1 : Nat) : Int) + 1) = ((t.length : Int) + 1) + 1 by omega, Int.mul_add, Int.add_mul a, ← ih, Int.mul_comm a ((t.length : Int) + 1)]
    omega
/-! digits -/
theorem dd_inj {k f g : Int} (hf : 0 ≤ f ∧ f < 10) (hg : 0 ≤ g ∧ g < 10) (h : (dd k f - dd k g) % 10 = 0) : f = g := by
  unfold dd at h
  split at h <;> omega
theorem dd_id {k f : Int} (hk : k % 2 = 0) (hf : 0 ≤ f ∧ f < 10) : dd k f = f := by
  unfold dd
  rw [if_neg (by omega)]
  omega
theorem dd_two {k f : Int} (hk : k % 2 = 1) : dd k f = 2 * f / 10 + 2 * f % 10 := by
  unfold dd
  rw [if_pos hk]
theorem exch10 : ∀ a b : Fin 10, ((2 * (b.val : Int) / 10 + 2 * (b.val : Int) % 10 - b.val - (2 * (a.val : Int) / 10 + 2 * (a.val : Int) % 10 - a.val)) % 10 = 0 ↔ ((a.val : Int) = b.val ∨ ((a.val : Int) = 0 ∧ (b.val : Int) = 9) ∨ ((a.val : Int) = 9 ∧ (b.val : Int) = 0))) := by decide +kernel
theorem dd_exch {a b : Int} (ha : 0 ≤ a ∧ a < 10) (hb : 0 ≤ b ∧ b < 10) : (2 * b / 10 + 2 * b % 10 - b - (2 * a / 10 + 2 * a % 10 - a)) % 10 = 0 ↔ (a = b ∨ (a = 0 ∧ b = 9) ∨ (a = 9 ∧ b = 0)) := by
  have h := exch10 ⟨a.toNat, by omega⟩ ⟨b.toNat, by omega⟩
  simp only [Int.toNat_of_nonneg ha.1, Int.toNat_of_nonneg hb.1] at h
  exact h
theorem eleven9 : ∀ d : Fin 9, ∀ x : Fin 21, ((((d.val + 1 : Nat) : Int) * ((x.val : Int) - 10)) % 11 = 0 ↔ (x.val : Int) - 10 = 0) := by decide +kernel
theorem eleven {d x : Int} (h0 : 1 ≤ d) (h1 : d ≤ 9) (h2 : -11 < x) (h3 : x < 11) : (d * x) % 11 = 0 ↔ x = 0 := by
  have h := eleven9 ⟨(d - 1).toNat, by omega⟩ ⟨(x + 10).toNat, by omega⟩
  rw [show (((d - 1).toNat + 1 : Nat) : Int) = d by omega, show (((x + 10).toNat : Nat) : Int) - 10 = x by omega] at h
  exact h
theorem rep_set {l : List Int} {k : Int} {f : Int} (h0 : 0 ≤ k) (h1 : k < (l.length : Int)) : l.take k.toNat ++ [f] ++ l.drop (k + 1).toNat = l.set k.toNat f := by
  rw [List.set_eq_take_append_cons_drop, if_pos (by omega), show (k + 1).toNat = k.toNat + 1 by omega, List.append_assoc]
  rfl
theorem mem_getD {l : List Int} {b : Int} (h : ∀ x ∈ l, 0 ≤ x ∧ x < b) {i : Nat} (hi : i < l.length) : 0 ≤ l.getD i 0 ∧ l.getD i 0 < b := by
  rw [List.getD_eq_getElem?_getD, List.getElem?_eq_getElem hi]
  exact h _ (List.getElem_mem hi)
/-! the seven facts -/
theorem fact1 {xs : List Int} (h10 : ∀ x ∈ xs, 0 ≤ x ∧ x < 10) (hz : luhn xs = 0) : ∀ k f : Int, 0 ≤ k → k < (xs.length : Int) → 0 ≤ f → f < 10 → f ≠ xs.getD k.toNat 0 → luhn (xs.take k.toNat ++ [f] ++ xs.drop (k + 1).toNat) ≠ 0 := by
  intro k f h0 h1 hf0 hf1 hne h
  have hk : k.toNat < xs.length := by omega
  rw [rep_set h0 h1] at h
  unfold luhn at h hz
  rw [dsum_W] at h hz
  rw [W_set xs _ f hk] at h
  exact hne (dd_inj (k := (xs.length : Int) - 1 - (k.toNat : Int)) ⟨hf0, hf1⟩ (mem_getD h10 hk) (by omega))
theorem fact2 {ys : List Int} (h11 : ∀ x ∈ ys, 0 ≤ x ∧ x < 11) (hl : ys.length ≤ 9) (hz : places ys = 0) : ∀ k f : Int, 0 ≤ k → k < (ys.length : Int) → 0 ≤ f → f < 10 → f ≠ ys.getD k.toNat 0 → places (ys.take k.toNat ++ [f] ++ ys.drop (k + 1).toNat) ≠ 0 := by
  intro k f h0 h1 hf0 hf1 hne h
  have hk : k.toNat < ys.length := by omega
  have hb := mem_getD h11 hk
  rw [rep_set h0 h1] at h
  unfold places at h hz
  rw [psum_P] at h hz
  rw [P_set ys _ f hk] at h
  have := (eleven (d := (ys.length : Int) - (k.toNat : Int)) (x := f - ys.getD k.toNat 0) (by omega) (by omega) (by omega) (by omega)).mp (by omega)
  omega
theorem getD_set_ne {l : List Int} {i j : Nat} {a : Int} (h : i ≠ j) : (l.set i a).getD j 0 = l.getD j 0 := by
  simp [List.getD_eq_getElem?_getD, List.getElem?_set_ne h]
theorem W_swap {xs : List Int} {i j : Nat} (hi : i < xs.length) (hj : j < xs.length) (hne : i ≠ j) : W (swapped xs i j) = W xs + dd ((xs.length : Int) - 1 - i) (xs.getD j 0) - dd ((xs.length : Int) - 1 - i) (xs.getD i 0) + dd ((xs.length : Int) - 1 - j) (xs.getD i 0) - dd ((xs.length : Int) - 1 - j) (xs.getD j 0) := by
  unfold swapped
  rw [W_set _ j _ (by rw [List.length_set]; exact hj), List.length_set, W_set xs i _ hi, getD_set_ne hne]
theorem P_swap {ys : List Int} {i j : Nat} (hi : i < ys.length) (hj : j < ys.length) (hne : i ≠ j) : P (swapped ys i j) = P ys + ((ys.length : Int) - i) * (ys.getD j 0 - ys.getD i 0) + ((ys.length : Int) - j) * (ys.getD i 0 - ys.getD j 0) := by
  unfold swapped
  rw [P_set _ j _ (by rw [List.length_set]; exact hj), List.length_set, P_set ys i _ hi, getD_set_ne hne]
theorem modz {w p q r t : Int} (hz : w % 10 = 0) : (w + p - q + r - t) % 10 = 0 ↔ (p - t - (q - r)) % 10 = 0 := by omega
theorem modz' {w p q r t : Int} (hz : w % 10 = 0) : (w + p - q + r - t) % 10 = 0 ↔ (t - p - (r - q)) % 10 = 0 := by omega
theorem fact3 {xs : List Int} (h10 : ∀ x ∈ xs, 0 ≤ x ∧ x < 10) (hz : luhn xs = 0) : ∀ k : Int, 1 ≤ k → k < (xs.length : Int) → (luhn (swapped xs (k - 1).toNat k.toNat) = 0 ↔ (xs.getD (k - 1).toNat 0 = xs.getD k.toNat 0 ∨ (xs.getD (k - 1).toNat 0 = 0 ∧ xs.getD k.toNat 0 = 9) ∨ (xs.getD (k - 1).toNat 0 = 9 ∧ xs.getD k.toNat 0 = 0))) := by
  intro k h0 h1
  have hk : k.toNat < xs.length := by omega
  have hj : (k - 1).toNat < xs.length := by omega
  have ha := mem_getD h10 hj
  have hb := mem_getD h10 hk
  unfold luhn at hz ⊢
  rw [dsum_W] at hz ⊢
  rw [W_swap hj hk (by omega)]
  generalize hga : xs.getD (k - 1).toNat 0 = a at *
  generalize hgb : xs.getD k.toNat 0 = b at *
  rw [← dd_exch ha hb]
  rcases Int.emod_two_eq ((xs.length : Int) - 1 - (k.toNat : Int)) with hp | hp
  · rw [dd_id hp ha, dd_id hp hb, dd_two (f := a) (show ((xs.length : Int) - 1 - ((k - 1).toNat : Int)) % 2 = 1 by omega), dd_two (f := b) (show ((xs.length : Int) - 1 - ((k - 1).toNat : Int)) % 2 = 1 by omega)]
    exact modz hz
  · have hq : ((xs.length : Int) - 1 - ((k - 1).toNat : Int)) % 2 = 0 := by omega
    rw [dd_id hq ha, dd_id hq hb, dd_two hp, dd_two hp]
    exact modz' hz
theorem fact4 {ys : List Int} (h11 : ∀ x ∈ ys, 0 ≤ x ∧ x < 11) (hl : ys.length ≤ 9) (hz : places ys = 0) : ∀ j k : Int, 0 ≤ j → j < k → k < (ys.length : Int) → (places (swapped ys j.toNat k.toNat) = 0 ↔ ys.getD j.toNat 0 = ys.getD k.toNat 0) := by
  intro j k h0 hjk h1
  have hk : k.toNat < ys.length := by omega
  have hj : j.toNat < ys.length := by omega
  have ha := mem_getD h11 hj
  have hb := mem_getD h11 hk
  unfold places at hz ⊢
  rw [psum_P] at hz ⊢
  rw [P_swap hj hk (by omega)]
  generalize ys.getD j.toNat 0 = a at *
  generalize ys.getD k.toNat 0 = b at *
  have e : ((ys.length : Int) - (j.toNat : Int)) * (b - a) + ((ys.length : Int) - (k.toNat : Int)) * (a - b) = ((k.toNat : Int) - (j.toNat : Int)) * (b - a) := by
    rw [show a - b = -(b - a) by omega, Int.mul_neg, ← Int.sub_eq_add_neg, ← Int.sub_mul]
    congr 1
    omega
  rw [Int.add_assoc, e]
  have := eleven (d := (k.toNat : Int) - (j.toNat : Int)) (x := b - a) (by omega) (by omega) (by omega) (by omega)
  omega
theorem fact5 (ys : List Int) : (places ys.reverse + places ys - ys.sum * ((ys.length : Int) + 1) % 11) % 11 = 0 := by
  unfold places
  rw [psum_P, psum_P, ← P_rev]
  omega
theorem fact6 {xs : List Int} (hz : luhn xs = 0) : luhn ([0] ++ xs) = 0 := by
  unfold luhn at hz ⊢
  rw [dsum_W] at hz ⊢
  show (dd (xs.length : Int) 0 + W xs) % 10 = 0
  have : dd (xs.length : Int) 0 = 0 := by unfold dd; split <;> rfl
  omega
theorem fact7 {xs : List Int} (hz : luhn xs = 0) : luhn ([1] ++ xs) ≠ 0 := by
  unfold luhn at hz ⊢
  rw [dsum_W] at hz ⊢
  show (dd (xs.length : Int) 1 + W xs) % 10 ≠ 0
  have : dd (xs.length : Int) 1 = 1 ∨ dd (xs.length : Int) 1 = 2 := by unfold dd; split <;> decide
  omega
/-! the one last figure -/
theorem snoc_set (fs : List Int) (k : Int) : fs ++ [k] = (fs ++ [0]).set fs.length k := by simp
theorem luhn_snoc (fs : List Int) {k : Int} (h0 : 0 ≤ k) (h1 : k < 10) : luhn (fs ++ [k]) = (W (fs ++ [0]) + k) % 10 := by
  unfold luhn
  rw [dsum_W, snoc_set, W_set _ _ _ (by simp)]
  have e : (((fs ++ [0]).length : Nat) : Int) - 1 - (fs.length : Int) = 0 := by rw [List.length_append, List.length_singleton]; omega
  have z : (fs ++ [(0 : Int)]).getD fs.length 0 = 0 := by simp [List.getD_eq_getElem?_getD]
  rw [e, z, dd_id (by decide) ⟨h0, h1⟩, dd_id (by decide) ⟨by decide, by decide⟩]
  omega
theorem places_snoc (fs : List Int) (k : Int) : places (fs ++ [k]) = (P fs + fs.sum + k) % 11 := by
  unfold places
  rw [psum_P, P_snoc]
theorem filt_one {n : Nat} {p : Int → Bool} {c : Int} (hc0 : 0 ≤ c) (hc1 : c < (n : Int)) (h : ∀ k : Int, 0 ≤ k → k < (n : Int) → (p k = true ↔ k = c)) : (rangeKs 0 n).filter p = [c] := by
  have key : ∀ m : Nat, m ≤ n → (rangeKs 0 m).filter p = if c < (m : Int) then [c] else [] := by
    intro m
    induction m with
    | zero => intro _; rw [if_neg (by omega)]; rfl
    | succ m ih =>
      intro hm
      have e : rangeKs 0 (m + 1) = rangeKs 0 m ++ [(m : Int)] := by simp [rangeKs, List.range_succ]
      rw [e, List.filter_append, ih (by omega)]
      have hp := h m (by omega) (by omega)
      by_cases hmc : (m : Int) = c
      · have hpt : p (m : Int) = true := hp.mpr hmc
        rw [List.filter_cons, if_pos hpt, List.filter_nil, if_neg (by omega), if_pos (by omega), hmc]
        rfl
      · have hpf : ¬ p (m : Int) = true := fun q => hmc (hp.mp q)
        rw [List.filter_cons, if_neg hpf, List.filter_nil, List.append_nil]
        by_cases hlt : c < (m : Int)
        · rw [if_pos hlt, if_pos (by omega)]
        · rw [if_neg hlt, if_neg (by omega)]
  rw [key n (Nat.le_refl _), if_pos hc1]
theorem one_last (fs : List Int) : ∃ ka : Int, 0 ≤ ka ∧ ka < 10 ∧ luhn (fs ++ [ka]) = 0 ∧ ((rangeKs 0 10).filter fun k => decide (luhn (fs ++ [k]) = 0)) = [ka] := by
  refine ⟨(-(W (fs ++ [0]))) % 10, by omega, by omega, ?_, ?_⟩
  · rw [luhn_snoc fs (by omega) (by omega)]; omega
  · refine filt_one (by omega) (by omega) fun k h0 h1 => ?_
    rw [decide_eq_true_iff, luhn_snoc fs h0 (by omega)]
    omega
theorem one_last2 (fs : List Int) : ∃ kb : Int, 0 ≤ kb ∧ kb < 11 ∧ places (fs ++ [kb]) = 0 ∧ ((rangeKs 0 11).filter fun k => decide (places (fs ++ [k]) = 0)) = [kb] := by
  refine ⟨(-(P fs + fs.sum)) % 11, by omega, by omega, ?_, ?_⟩
  · rw [places_snoc]; omega
  · refine filt_one (by omega) (by omega) fun k h0 h1 => ?_
    rw [decide_eq_true_iff, places_snoc]
    omega
end Mine
end
section
open PySem PySem.W PyProof.Rows PySem.Spec PySem.Calls
set_option maxRecDepth 100000
set_option maxHeartbeats 8000000
namespace Mine
local macro_rules | `(tactic| k_room) => `(tactic| ((try simp only [depth_mark, depth_under_make, depth_under_kw, depth_in1, depth_deeper, depth_caller]); (simp only [recursionLimit] at *); omega))
local macro_rules | `(tactic| k_all) => `(tactic| (refine allNe (by assumption) ?_; (try dsimp only); omega))
local macro_rules | `(tactic| k_all) => `(tactic| (refine allNe (allLt_of (by assumption)) ?_; (try dsimp only); omega))
local macro_rules | `(tactic| walk_at $s:str) => `(tactic| k_extra $s)
local macro_rules | `(tactic| k_enter) => `(tactic| k_extra "enter")
section
section
theorem div_S : ∀ {w : World} {mean : ExcName → Option Value} {mg mb : Str → Option Value} {dp un : Nat} {gd : Option (List Code)} {cn : Str} {cs : Scope} {a : Addr} {ccd : Value} {cl : List (Str × Addr)} {outer : List Env} {A₀ : Around} {base h₀ : Heap} {L : Addr} {m : Str → Option Value} {s : Shared} {Q E : Value → Shared → Prop} {news : List (Addr × Obj)} {x b n : Int} {tx tb tn : Tok},
      Below A₀ base outer h₀ →
      Fr h₀ L s.heap m →
      (hd.heap_39 w.params).In h₀ →
      News h₀ L s.heap (news) →
      Top topProg LL mean mg mb h₀ →
      cs.kind = .function →
      dp + 2 < recursionLimit →
      un + 60 < cLine →
      (0 ≤ x) →
      (x < 1000000) →
      (0 < b) →
      (b < 1000000) →
      (0 ≤ n) →
      (n < 100) →
      (∀ (q r : Int) (t1 t2 : Tok) (c : Nat) D h' tk', Fr h₀ L h' m → News h₀ L h' ((D, pairO q r t1 t2 c) :: news) → (∀ p ∈ (news : List (Addr × Obj)), p.1 < D) → DivR x b q r → 0 ≤ q → q ≤ x → 0 ≤ r → r < b → Q (.ref D) { s with heap := h', toks := tk' }) →
      wpAny (model PySem.Challenge.rw_gs0003_01.row.prog w) (ktrTop dp un gd cn cs L a ccd cl outer) (call (.ref 21) [.int x tx, .int b tb, .int n tn]) Q E s := by
  k_fill
  w_top off
  k_with_none
  k_with "enter" => (first | (refine' code_defL ?k1 ?k2 ?k3 ?k4 ?k5 ?kA ?kF ?kK ?k6 ?k7 ?k8 ?k9 ?kB ?_ ?c2 ?c3 ?c4 ?c5; (case kA => exact rfl); (case kF => exact rfl); (case kK => assumption); (case k1 => k_asm); (case k2 => k_asm); (case k3 => k_asm); (case k4 => k_asm); (case k5 => k_asm); (case k6 => k_is); (case k7 => k_is); (case k8 => k_room); (case k9 => exact BindsTo.of_eq rfl); (case c5 => decide); (case kB => exact locs rfl); (case c2 => exact rfl); (case c3 => exact rfl); (case c4 => exact rfl); k_whole; intro g' L' h' FG' F' N' B' X' T' l1; (try k_lt l1); (try dsimp only); (try k_lift B'); (try k_fold)) | (refine' code_defC ?k1 ?k2 ?k3 ?k4 ?k5 ?kA ?kF ?kK ?k6 ?k7 ?k8 ?k9 ?kB ?kD ?_ ?c2 ?c3 ?c4; (case kA => exact rfl); (case kF => exact rfl); (case kK => assumption); (case k1 => k_asm); (case k2 => k_asm); (case k3 => k_asm); (case k4 => k_asm); (case k5 => k_asm); (case k6 => k_is); (case k7 => k_is); (case k8 => k_room); (case k9 => exact BindsTo.of_eq rfl); (case kB => exact rfl); (case kD => decide +kernel); (case c2 => exact rfl); (case c3 => exact rfl); (case c4 => exact rfl); k_whole; intro g' L' h' tk' cells' FG' F' N' Y' B' X' T' l1; (try k_lt l1); k_cells Y'; (try simp only [List.cons_append, List.nil_append] at N'); (try dsimp only); (try k_lift B'); (try k_fold)))
  k_with "call builtin:divmod" => (k_here; k_dflt (refine' divmod_L ?k1 ?k2 ?k3 ?k4 ?_; (case k1 => k_asm); (case k2 => k_asm); (case k3 => omega); (case k4 => omega); k_whole); intro D' h' F' N' l1; (try k_lt l1); (try k_sweep))
  intro w mean mg mb dp un gd cn cs a ccd cl outer A₀ base h₀ L m s Q E news x b n tx tb tn B F X N T hk hd hu hx0 hx1 hb0 hb1 hn0 hn1 hret
  refine wpAny_call ?_
  k_dflt k_enter
  have hbits : (Builtin.Int.intBits x : Int) - n ≤ 4000 := by have := bits_le (k := 20) hx0 (by omega); omega
  k_steps
  refine' hret _ _ _ _ _ _ _ _ ?zf ?zn ?zl ?zq0 ?zq1 ?zq2 ?zq3 ?zq4
  case zn =>
    refine' subR ?zA ?zB ?zC
    case zA => assumption
    case zB => k_mem
    case zC => (intro p hp; repeat (first | exact hp | apply List.mem_cons_of_mem))
  case zf => assumption
  case zl => first | assumption | (refine ltFrom ?_; first | assumption | (simp only [AllLt, *, and_self, and_true, true_and]; done))
  case zq0 => exact divR_of hb0
  case zq1 => exact (fdiv_bd hx0 hb0).1
  case zq2 => exact (fdiv_bd hx0 hb0).2
  case zq3 => exact (fmod_bd hb0).1
  case zq4 => exact (fmod_bd hb0).2
end
end
section
section
theorem i2d0_in : ∀ {w : World} {mean : ExcName → Option Value} {mg mb : Str → Option Value} {dp un : Nat} {gd : Option (List Code)} {cn : Str} {cs : Scope} {a : Addr} {ccd : Value} {cl : List (Str × Addr)} {outer : List Env} {A₀ : Around} {base h₀ : Heap} {L : Addr} {m : Str → Option Value} {s : Shared} {Q E : Value → Shared → Prop} {c1 c2 : Addr} {oc1 oc2 : Obj} {vs1 vs2 : Array Value} {tk1 tk2 : Tok} {news : List (Addr × Obj)} {tx t4 : Tok},
      Below A₀ base outer h₀ →
      Fr h₀ L s.heap m →
      (hd.heap_39 w.params).In h₀ →
      News h₀ L s.heap ((37, tab2 c2) :: (c2, oc2) :: (30, tab1 c1) :: (c1, oc1) :: news) →
      Top topProg LL mean mg mb h₀ →
      cs.kind = .function →
      CodeHd base 41 37 →
      CodeHd base 34 30 →
      oc1.data = .fields vs1 →
      vs1[1]? = some (.str (Str.ofString "_int2digits.<locals>.inner") tk1) →
      oc2.data = .fields vs2 →
      vs2[1]? = some (.str (Str.ofString "_digits2int.<locals>.inner") tk2) →
      dp + 8 < recursionLimit →
      un + 100 < cLine →
      (∀  D h' tk', Fr h₀ L h' m → News h₀ L h' ((D, W.listOf #[] 0) :: (37, tab2 c2) :: (c2, oc2) :: (30, tab1 c1) :: (c1, oc1) :: news) → (∀ p ∈ ((37, tab2 c2) :: (c2, oc2) :: (30, tab1 c1) :: (c1, oc1) :: news : List (Addr × Obj)), p.1 < D) → Q (.ref D) { s with heap := h', toks := tk' }) →
      wpAny (model PySem.Challenge.rw_gs0003_01.row.prog w) (ktrTop dp un gd cn cs L a ccd cl outer) (call (.ref 35) [.int 0 tx, .int 4 t4]) Q E s := by
  k_fill
  w_top off
  k_with_none
  k_with "enter" => (first | (refine' code_defL ?k1 ?k2 ?k3 ?k4 ?k5 ?kA ?kF ?kK ?k6 ?k7 ?k8 ?k9 ?kB ?_ ?c2 ?c3 ?c4 ?c5; (case kA => exact rfl); (case kF => exact rfl); (case kK => assumption); (case k1 => k_asm); (case k2 => k_asm); (case k3 => k_asm); (case k4 => k_asm); (case k5 => k_asm); (case k6 => k_is); (case k7 => k_is); (case k8 => k_room); (case k9 => exact BindsTo.of_eq rfl); (case c5 => decide); (case kB => exact locs rfl); (case c2 => exact rfl); (case c3 => exact rfl); (case c4 => exact rfl); k_whole; intro g' L' h' FG' F' N' B' X' T' l1; (try k_lt l1); (try dsimp only); (try k_lift B'); (try k_fold)) | (refine' code_defC ?k1 ?k2 ?k3 ?k4 ?k5 ?kA ?kF ?kK ?k6 ?k7 ?k8 ?k9 ?kB ?kD ?_ ?c2 ?c3 ?c4; (case kA => exact rfl); (case kF => exact rfl); (case kK => assumption); (case k1 => k_asm); (case k2 => k_asm); (case k3 => k_asm); (case k4 => k_asm); (case k5 => k_asm); (case k6 => k_is); (case k7 => k_is); (case k8 => k_room); (case k9 => exact BindsTo.of_eq rfl); (case kB => exact rfl); (case kD => decide +kernel); (case c2 => exact rfl); (case c3 => exact rfl); (case c4 => exact rfl); k_whole; intro g' L' h' tk' cells' FG' F' N' Y' B' X' T' l1; (try k_lt l1); k_cells Y'; (try simp only [List.cons_append, List.nil_append] at N'); (try dsimp only); (try k_lift B'); (try k_fold)))
  k_with "call builtin:divmod" => (k_here; k_dflt (refine' divmod_L ?k1 ?k2 ?k3 ?k4 ?_; (case k1 => k_asm); (case k2 => k_asm); (case k3 => omega); (case k4 => omega); k_whole); intro D' h' F' N' l1; (try k_lt l1); (try k_sweep))
  k_with "binaryOp Mult ref int" => (k_here; (rename (Int.fdiv _ _ = (_ : Int)) => hb9'); rw [hb9'])
  intro w mean mg mb dp un gd cn cs a ccd cl outer A₀ base h₀ L m s Q E c1 c2 oc1 oc2 vs1 vs2 tk1 tk2 news tx t4 B F X N T hk C1 C2 d1 v1 d2 v2 hd hu hret
  refine wpAny_call ?_
  k_dflt k_enter
  have hbits : ((Builtin.Int.intBits 0 : Int) + 4 - 1).fdiv 4 = 0 := by decide
  (rename (_ ∧ _ ∧ _ ∧ _ ∧ AllLt _ _) => hl)
  have hNL := hl.2.2.2.2
  k_steps
  all_goals first
    | (exfalso; simp only [decide_eq_true_eq, decide_eq_false_iff_not, Decidable.not_not, ne_eq] at *; omega)
    | skip
  refine' hret _ _ _ ?zf ?zn ?zl
  case zn =>
    refine' subR ?zA ?zB ?zC
    case zA => assumption
    case zB => k_mem
    case zC => (intro p hp; repeat (first | exact hp | apply List.mem_cons_of_mem))
  case zf => assumption
  case zl => first | assumption | (refine ltFrom ?_; first | assumption | (simp only [AllLt, *, and_self, and_true, true_and]; done))
theorem i2d0 : ∀ {w : World} {mean : ExcName → Option Value} {mg mb : Str → Option Value} {dp un : Nat} {gd : Option (List Code)} {cn : Str} {cs : Scope} {a : Addr} {ccd : Value} {cl : List (Str × Addr)} {outer : List Env} {A₀ : Around} {base h₀ : Heap} {L : Addr} {m : Str → Option Value} {s : Shared} {Q E : Value → Shared → Prop} {c1 c2 : Addr} {oc1 oc2 : Obj} {vs1 vs2 : Array Value} {tk1 tk2 : Tok} {news : List (Addr × Obj)} {tx t4 : Tok},
      Below A₀ base outer h₀ →
      Fr h₀ L s.heap m →
      (hd.heap_39 w.params).In h₀ →
      News h₀ L s.heap (news) →
      Top topProg LL mean mg mb h₀ →
      cs.kind = .function →
      CodeHd base 41 37 →
      CodeHd base 34 30 →
      (37, tab2 c2) ∈ news →
      (c2, oc2) ∈ news →
      (30, tab1 c1) ∈ news →
      (c1, oc1) ∈ news →
      oc1.data = .fields vs1 →
      vs1[1]? = some (.str (Str.ofString "_int2digits.<locals>.inner") tk1) →
      oc2.data = .fields vs2 →
      vs2[1]? = some (.str (Str.ofString "_digits2int.<locals>.inner") tk2) →
      dp + 8 < recursionLimit →
      un + 100 < cLine →
      (∀  D h' tk', Fr h₀ L h' m → News h₀ L h' ((D, W.listOf #[] 0) :: news) → (∀ p ∈ (news : List (Addr × Obj)), p.1 < D) → Q (.ref D) { s with heap := h', toks := tk' }) →
      wpAny (model PySem.Challenge.rw_gs0003_01.row.prog w) (ktrTop dp un gd cn cs L a ccd cl outer) (call (.ref 35) [.int 0 tx, .int 4 t4]) Q E s := by
  intro w mean mg mb dp un gd cn cs a ccd cl outer A₀ base h₀ L m s Q E c1 c2 oc1 oc2 vs1 vs2 tk1 tk2 news tx t4 B F X N T hk C1 C2 e1 e2 e3 e4 d1 v1 d2 v2 hd hu hret
  exact i2d0_in B F X (upN (upN (upN (upN N e4) e3) e2) e1) T hk C1 C2 d1 v1 d2 v2 hd hu (fun  D h' tk' F' N' l'  => hret  D h' tk' F' (dropN1 4 N') (dropL 4 l') )
end
end
section
section
theorem i2d1_in : ∀ {w : World} {mean : ExcName → Option Value} {mg mb : Str → Option Value} {dp un : Nat} {gd : Option (List Code)} {cn : Str} {cs : Scope} {a : Addr} {ccd : Value} {cl : List (Str × Addr)} {outer : List Env} {A₀ : Around} {base h₀ : Heap} {L : Addr} {m : Str → Option Value} {s : Shared} {Q E : Value → Shared → Prop} {c1 c2 : Addr} {oc1 oc2 : Obj} {vs1 vs2 : Array Value} {tk1 tk2 : Tok} {news : List (Addr × Obj)} {x : Int} {tx t4 : Tok},
      Below A₀ base outer h₀ →
      Fr h₀ L s.heap m →
      (hd.heap_39 w.params).In h₀ →
      News h₀ L s.heap ((37, tab2 c2) :: (c2, oc2) :: (30, tab1 c1) :: (c1, oc1) :: news) →
      Top topProg LL mean mg mb h₀ →
      cs.kind = .function →
      CodeHd base 41 37 →
      CodeHd base 34 30 →
      oc1.data = .fields vs1 →
      vs1[1]? = some (.str (Str.ofString "_int2digits.<locals>.inner") tk1) →
      oc2.data = .fields vs2 →
      vs2[1]? = some (.str (Str.ofString "_digits2int.<locals>.inner") tk2) →
      dp + 8 < recursionLimit →
      un + 100 < cLine →
      (1 ≤ x) →
      (x < 16) →
      (∀ (d0 : Int) (t0 : Tok) D h' tk', Fr h₀ L h' m → News h₀ L h' ((D, W.listOf #[.int d0 t0] 0) :: (37, tab2 c2) :: (c2, oc2) :: (30, tab1 c1) :: (c1, oc1) :: news) → (∀ p ∈ ((37, tab2 c2) :: (c2, oc2) :: (30, tab1 c1) :: (c1, oc1) :: news : List (Addr × Obj)), p.1 < D) → x = d0 → 0 ≤ d0 → d0 < 16 → Q (.ref D) { s with heap := h', toks := tk' }) →
      wpAny (model PySem.Challenge.rw_gs0003_01.row.prog w) (ktrTop dp un gd cn cs L a ccd cl outer) (call (.ref 35) [.int x tx, .int 4 t4]) Q E s := by
  k_fill
  w_top off
  k_with_none
  k_with "enter" => (first | (refine' code_defL ?k1 ?k2 ?k3 ?k4 ?k5 ?kA ?kF ?kK ?k6 ?k7 ?k8 ?k9 ?kB ?_ ?c2 ?c3 ?c4 ?c5; (case kA => exact rfl); (case kF => exact rfl); (case kK => assumption); (case k1 => k_asm); (case k2 => k_asm); (case k3 => k_asm); (case k4 => k_asm); (case k5 => k_asm); (case k6 => k_is); (case k7 => k_is); (case k8 => k_room); (case k9 => exact BindsTo.of_eq rfl); (case c5 => decide); (case kB => exact locs rfl); (case c2 => exact rfl); (case c3 => exact rfl); (case c4 => exact rfl); k_whole; intro g' L' h' FG' F' N' B' X' T' l1; (try k_lt l1); (try dsimp only); (try k_lift B'); (try k_fold)) | (refine' code_defC ?k1 ?k2 ?k3 ?k4 ?k5 ?kA ?kF ?kK ?k6 ?k7 ?k8 ?k9 ?kB ?kD ?_ ?c2 ?c3 ?c4; (case kA => exact rfl); (case kF => exact rfl); (case kK => assumption); (case k1 => k_asm); (case k2 => k_asm); (case k3 => k_asm); (case k4 => k_asm); (case k5 => k_asm); (case k6 => k_is); (case k7 => k_is); (case k8 => k_room); (case k9 => exact BindsTo.of_eq rfl); (case kB => exact rfl); (case kD => decide +kernel); (case c2 => exact rfl); (case c3 => exact rfl); (case c4 => exact rfl); k_whole; intro g' L' h' tk' cells' FG' F' N' Y' B' X' T' l1; (try k_lt l1); k_cells Y'; (try simp only [List.cons_append, List.nil_append] at N'); (try dsimp only); (try k_lift B'); (try k_fold)))
  k_with "call builtin:divmod" => (k_here; k_dflt (refine' divmod_L ?k1 ?k2 ?k3 ?k4 ?_; (case k1 => k_asm); (case k2 => k_asm); (case k3 => omega); (case k4 => omega); k_whole); intro D' h' F' N' l1; (try k_lt l1); (try k_sweep))
  k_with "binaryOp Mult ref int" => (k_here; (rename (Int.fdiv _ _ = (_ : Int)) => hb9'); rw [hb9'])
  intro w mean mg mb dp un gd cn cs a ccd cl outer A₀ base h₀ L m s Q E c1 c2 oc1 oc2 vs1 vs2 tk1 tk2 news x tx t4 B F X N T hk C1 C2 d1 v1 d2 v2 hd hu hx0 hx1 hret
  refine wpAny_call ?_
  k_dflt k_enter
  have hbits : ((Builtin.Int.intBits x : Int) + 4 - 1).fdiv 4 = 1 := by have h1 := bits_le (k := 4) (x := x) (by omega) (by omega); have h2 := bits_ge (k := 0) (x := x) (by omega); rw [Int.fdiv_eq_ediv_of_nonneg _ (by omega)]; omega
  (rename (_ ∧ _ ∧ _ ∧ _ ∧ AllLt _ _) => hl)
  have hNL := hl.2.2.2.2
  k_steps
  all_goals first
    | (exfalso; simp only [decide_eq_true_eq, decide_eq_false_iff_not, Decidable.not_not, ne_eq] at *; omega)
    | skip
  refine' hret _ _ _ _ _ ?zf ?zn ?zl ?zq0 ?zq1 ?zq2
  case zn =>
    refine' subR ?zA ?zB ?zC
    case zA => assumption
    case zB => k_mem
    case zC => (intro p hp; repeat (first | exact hp | apply List.mem_cons_of_mem))
  case zf => assumption
  case zl => first | assumption | (refine ltFrom ?_; first | assumption | (simp only [AllLt, *, and_self, and_true, true_and]; done))
  case zq0 => first | omega | ((try simp only [Int.reduceToNat, Int.reducePow, Int.reduceFDiv, Int.reduceAdd, Int.reduceSub, Int.reduceMul, List.getD_cons_zero, List.getD_cons_succ]); (try rw [xor16 (by omega)]); (try rw [xor16 (by rw [fd16]; omega)]); (try rw [fd16]); (try rw [fd16]); omega)
  case zq1 => first | omega | ((try simp only [Int.reduceToNat, Int.reducePow, Int.reduceFDiv, Int.reduceAdd, Int.reduceSub, Int.reduceMul, List.getD_cons_zero, List.getD_cons_succ]); (try rw [xor16 (by omega)]); (try rw [xor16 (by rw [fd16]; omega)]); (try rw [fd16]); (try rw [fd16]); omega)
  case zq2 => first | omega | ((try simp only [Int.reduceToNat, Int.reducePow, Int.reduceFDiv, Int.reduceAdd, Int.reduceSub, Int.reduceMul, List.getD_cons_zero, List.getD_cons_succ]); (try rw [xor16 (by omega)]); (try rw [xor16 (by rw [fd16]; omega)]); (try rw [fd16]); (try rw [fd16]); omega)
theorem i2d1 : ∀ {w : World} {mean : ExcName → Option Value} {mg mb : Str → Option Value} {dp un : Nat} {gd : Option (List Code)} {cn : Str} {cs : Scope} {a : Addr} {ccd : Value} {cl : List (Str × Addr)} {outer : List Env} {A₀ : Around} {base h₀ : Heap} {L : Addr} {m : Str → Option Value} {s : Shared} {Q E : Value → Shared → Prop} {c1 c2 : Addr} {oc1 oc2 : Obj} {vs1 vs2 : Array Value} {tk1 tk2 : Tok} {news : List (Addr × Obj)} {x : Int} {tx t4 : Tok},
      Below A₀ base outer h₀ →
      Fr h₀ L s.heap m →
      (hd.heap_39 w.params).In h₀ →
      News h₀ L s.heap (news) →
      Top topProg LL mean mg mb h₀ →
      cs.kind = .function →
      CodeHd base 41 37 →
      CodeHd base 34 30 →
      (37, tab2 c2) ∈ news →
      (c2, oc2) ∈ news →
      (30, tab1 c1) ∈ news →
      (c1, oc1) ∈ news →
      oc1.data = .fields vs1 →
      vs1[1]? = some (.str (Str.ofString "_int2digits.<locals>.inner") tk1) →
      oc2.data = .fields vs2 →
      vs2[1]? = some (.str (Str.ofString "_digits2int.<locals>.inner") tk2) →
      dp + 8 < recursionLimit →
      un + 100 < cLine →
      (1 ≤ x) →
      (x < 16) →
      (∀ (d0 : Int) (t0 : Tok) D h' tk', Fr h₀ L h' m → News h₀ L h' ((D, W.listOf #[.int d0 t0] 0) :: news) → (∀ p ∈ (news : List (Addr × Obj)), p.1 < D) → x = d0 → 0 ≤ d0 → d0 < 16 → Q (.ref D) { s with heap := h', toks := tk' }) →
      wpAny (model PySem.Challenge.rw_gs0003_01.row.prog w) (ktrTop dp un gd cn cs L a ccd cl outer) (call (.ref 35) [.int x tx, .int 4 t4]) Q E s := by
  intro w mean mg mb dp un gd cn cs a ccd cl outer A₀ base h₀ L m s Q E c1 c2 oc1 oc2 vs1 vs2 tk1 tk2 news x tx t4 B F X N T hk C1 C2 e1 e2 e3 e4 d1 v1 d2 v2 hd hu hx0 hx1 hret
  exact i2d1_in B F X (upN (upN (upN (upN N e4) e3) e2) e1) T hk C1 C2 d1 v1 d2 v2 hd hu hx0 hx1 (fun d0 t0 D h' tk' F' N' l' f0 f1 f2 => hret d0 t0 D h' tk' F' (dropN1 4 N') (dropL 4 l') f0 f1 f2)
end
end
section
section
theorem i2d2_in : ∀ {w : World} {mean : ExcName → Option Value} {mg mb : Str → Option Value} {dp un : Nat} {gd : Option (List Code)} {cn : Str} {cs : Scope} {a : Addr} {ccd : Value} {cl : List (Str × Addr)} {outer : List Env} {A₀ : Around} {base h₀ : Heap} {L : Addr} {m : Str → Option Value} {s : Shared} {Q E : Value → Shared → Prop} {c1 c2 : Addr} {oc1 oc2 : Obj} {vs1 vs2 : Array Value} {tk1 tk2 : Tok} {news : List (Addr × Obj)} {x : Int} {tx t4 : Tok},
      Below A₀ base outer h₀ →
      Fr h₀ L s.heap m →
      (hd.heap_39 w.params).In h₀ →
      News h₀ L s.heap ((37, tab2 c2) :: (c2, oc2) :: (30, tab1 c1) :: (c1, oc1) :: news) →
      Top topProg LL mean mg mb h₀ →
      cs.kind = .function →
      CodeHd base 41 37 →
      CodeHd base 34 30 →
      oc1.data = .fields vs1 →
      vs1[1]? = some (.str (Str.ofString "_int2digits.<locals>.inner") tk1) →
      oc2.data = .fields vs2 →
      vs2[1]? = some (.str (Str.ofString "_digits2int.<locals>.inner") tk2) →
      dp + 8 < recursionLimit →
      un + 100 < cLine →
      (16 ≤ x) →
      (x < 256) →
      (∀ (d0 d1 : Int) (t0 t1 : Tok) D h' tk', Fr h₀ L h' m → News h₀ L h' ((D, W.listOf #[.int d0 t0, .int d1 t1] 0) :: (37, tab2 c2) :: (c2, oc2) :: (30, tab1 c1) :: (c1, oc1) :: news) → (∀ p ∈ ((37, tab2 c2) :: (c2, oc2) :: (30, tab1 c1) :: (c1, oc1) :: news : List (Addr × Obj)), p.1 < D) → x = d0 + 16 * d1 → 0 ≤ d0 → d0 < 16 → 0 ≤ d1 → d1 < 16 → Q (.ref D) { s with heap := h', toks := tk' }) →
      wpAny (model PySem.Challenge.rw_gs0003_01.row.prog w) (ktrTop dp un gd cn cs L a ccd cl outer) (call (.ref 35) [.int x tx, .int 4 t4]) Q E s := by
  k_fill
  w_top off
  k_with_none
  k_with "enter" => (first | (refine' code_defL ?k1 ?k2 ?k3 ?k4 ?k5 ?kA ?kF ?kK ?k6 ?k7 ?k8 ?k9 ?kB ?_ ?c2 ?c3 ?c4 ?c5; (case kA => exact rfl); (case kF => exact rfl); (case kK => assumption); (case k1 => k_asm); (case k2 => k_asm); (case k3 => k_asm); (case k4 => k_asm); (case k5 => k_asm); (case k6 => k_is); (case k7 => k_is); (case k8 => k_room); (case k9 => exact BindsTo.of_eq rfl); (case c5 => decide); (case kB => exact locs rfl); (case c2 => exact rfl); (case c3 => exact rfl); (case c4 => exact rfl); k_whole; intro g' L' h' FG' F' N' B' X' T' l1; (try k_lt l1); (try dsimp only); (try k_lift B'); (try k_fold)) | (refine' code_defC ?k1 ?k2 ?k3 ?k4 ?k5 ?kA ?kF ?kK ?k6 ?k7 ?k8 ?k9 ?kB ?kD ?_ ?c2 ?c3 ?c4; (case kA => exact rfl); (case kF => exact rfl); (case kK => assumption); (case k1 => k_asm); (case k2 => k_asm); (case k3 => k_asm); (case k4 => k_asm); (case k5 => k_asm); (case k6 => k_is); (case k7 => k_is); (case k8 => k_room); (case k9 => exact BindsTo.of_eq rfl); (case kB => exact rfl); (case kD => decide +kernel); (case c2 => exact rfl); (case c3 => exact rfl); (case c4 => exact rfl); k_whole; intro g' L' h' tk' cells' FG' F' N' Y' B' X' T' l1; (try k_lt l1); k_cells Y'; (try simp only [List.cons_append, List.nil_append] at N'); (try dsimp only); (try k_lift B'); (try k_fold)))
  k_with "call builtin:divmod" => (k_here; k_dflt (refine' divmod_L ?k1 ?k2 ?k3 ?k4 ?_; (case k1 => k_asm); (case k2 => k_asm); (case k3 => omega); (case k4 => omega); k_whole); intro D' h' F' N' l1; (try k_lt l1); (try k_sweep))
  k_with "binaryOp Mult ref int" => (k_here; (rename (Int.fdiv _ _ = (_ : Int)) => hb9'); rw [hb9'])
  intro w mean mg mb dp un gd cn cs a ccd cl outer A₀ base h₀ L m s Q E c1 c2 oc1 oc2 vs1 vs2 tk1 tk2 news x tx t4 B F X N T hk C1 C2 d1 v1 d2 v2 hd hu hx0 hx1 hret
  refine wpAny_call ?_
  k_dflt k_enter
  have hbits : ((Builtin.Int.intBits x : Int) + 4 - 1).fdiv 4 = 2 := by have h1 := bits_le (k := 8) (x := x) (by omega) (by omega); have h2 := bits_ge (k := 4) (x := x) (by omega); rw [Int.fdiv_eq_ediv_of_nonneg _ (by omega)]; omega
  (rename (_ ∧ _ ∧ _ ∧ _ ∧ AllLt _ _) => hl)
  have hNL := hl.2.2.2.2
  k_steps
  all_goals first
    | (exfalso; simp only [decide_eq_true_eq, decide_eq_false_iff_not, Decidable.not_not, ne_eq] at *; omega)
    | skip
  refine' hret _ _ _ _ _ _ _ ?zf ?zn ?zl ?zq0 ?zq1 ?zq2 ?zq3 ?zq4
  case zn =>
    refine' subR ?zA ?zB ?zC
    case zA => assumption
    case zB => k_mem
    case zC => (intro p hp; repeat (first | exact hp | apply List.mem_cons_of_mem))
  case zf => assumption
  case zl => first | assumption | (refine ltFrom ?_; first | assumption | (simp only [AllLt, *, and_self, and_true, true_and]; done))
  case zq0 => first | omega | ((try simp only [Int.reduceToNat, Int.reducePow, Int.reduceFDiv, Int.reduceAdd, Int.reduceSub, Int.reduceMul, List.getD_cons_zero, List.getD_cons_succ]); (try rw [xor16 (by omega)]); (try rw [xor16 (by rw [fd16]; omega)]); (try rw [fd16]); (try rw [fd16]); omega)
  case zq1 => first | omega | ((try simp only [Int.reduceToNat, Int.reducePow, Int.reduceFDiv, Int.reduceAdd, Int.reduceSub, Int.reduceMul, List.getD_cons_zero, List.getD_cons_succ]); (try rw [xor16 (by omega)]); (try rw [xor16 (by rw [fd16]; omega)]); (try rw [fd16]); (try rw [fd16]); omega)
  case zq2 => first | omega | ((try simp only [Int.reduceToNat, Int.reducePow, Int.reduceFDiv, Int.reduceAdd, Int.reduceSub, Int.reduceMul, List.getD_cons_zero, List.getD_cons_succ]); (try rw [xor16 (by omega)]); (try rw [xor16 (by rw [fd16]; omega)]); (try rw [fd16]); (try rw [fd16]); omega)
  case zq3 => first | omega | ((try simp only [Int.reduceToNat, Int.reducePow, Int.reduceFDiv, Int.reduceAdd, Int.reduceSub, Int.reduceMul, List.getD_cons_zero, List.getD_cons_succ]); (try rw [xor16 (by omega)]); (try rw [xor16 (by rw [fd16]; omega)]); (try rw [fd16]); (try rw [fd16]); omega)
  case zq4 => first | omega | ((try simp only [Int.reduceToNat, Int.reducePow, Int.reduceFDiv, Int.reduceAdd, Int.reduceSub, Int.reduceMul, List.getD_cons_zero, List.getD_cons_succ]); (try rw [xor16 (by omega)]); (try rw [xor16 (by rw [fd16]; omega)]); (try rw [fd16]); (try rw [fd16]); omega)
theorem i2d2 : ∀ {w : World} {mean : ExcName → Option Value} {mg mb : Str → Option Value} {dp un : Nat} {gd : Option (List Code)} {cn : Str} {cs : Scope} {a : Addr} {ccd : Value} {cl : List (Str × Addr)} {outer : List Env} {A₀ : Around} {base h₀ : Heap} {L : Addr} {m : Str → Option Value} {s : Shared} {Q E : Value → Shared → Prop} {c1 c2 : Addr} {oc1 oc2 : Obj} {vs1 vs2 : Array Value} {tk1 tk2 : Tok} {news : List (Addr × Obj)} {x : Int} {tx t4 : Tok},
      Below A₀ base outer h₀ →
      Fr h₀ L s.heap m →
      (hd.heap_39 w.params).In h₀ →
      News h₀ L s.heap (news) →
      Top topProg LL mean mg mb h₀ →
      cs.kind = .function →
      CodeHd base 41 37 →
      CodeHd base 34 30 →
      (37, tab2 c2) ∈ news →
      (c2, oc2) ∈ news →
      (30, tab1 c1) ∈ news →
      (c1, oc1) ∈ news →
      oc1.data = .fields vs1 →
      vs1[1]? = some (.str (Str.ofString "_int2digits.<locals>.inner") tk1) →
      oc2.data = .fields vs2 →
      vs2[1]? = some (.str (Str.ofString "_digits2int.<locals>.inner") tk2) →
      dp + 8 < recursionLimit →
      un + 100 < cLine →
      (16 ≤ x) →
      (x < 256) →
      (∀ (d0 d1 : Int) (t0 t1 : Tok) D h' tk', Fr h₀ L h' m → News h₀ L h' ((D, W.listOf #[.int d0 t0, .int d1 t1] 0) :: news) → (∀ p ∈ (news : List (Addr × Obj)), p.1 < D) → x = d0 + 16 * d1 → 0 ≤ d0 → d0 < 16 → 0 ≤ d1 → d1 < 16 → Q (.ref D) { s with heap := h', toks := tk' }) →
      wpAny (model PySem.Challenge.rw_gs0003_01.row.prog w) (ktrTop dp un gd cn cs L a ccd cl outer) (call (.ref 35) [.int x tx, .int 4 t4]) Q E s := by
  intro w mean mg mb dp un gd cn cs a ccd cl outer A₀ base h₀ L m s Q E c1 c2 oc1 oc2 vs1 vs2 tk1 tk2 news x tx t4 B F X N T hk C1 C2 e1 e2 e3 e4 d1 v1 d2 v2 hd hu hx0 hx1 hret
  exact i2d2_in B F X (upN (upN (upN (upN N e4) e3) e2) e1) T hk C1 C2 d1 v1 d2 v2 hd hu hx0 hx1 (fun d0 d1 t0 t1 D h' tk' F' N' l' f0 f1 f2 f3 f4 => hret d0 d1 t0 t1 D h' tk' F' (dropN1 4 N') (dropL 4 l') f0 f1 f2 f3 f4)
end
end
section
section
theorem i2d3_in : ∀ {w : World} {mean : ExcName → Option Value} {mg mb : Str → Option Value} {dp un : Nat} {gd : Option (List Code)} {cn : Str} {cs : Scope} {a : Addr} {ccd : Value} {cl : List (Str × Addr)} {outer : List Env} {A₀ : Around} {base h₀ : Heap} {L : Addr} {m : Str → Option Value} {s : Shared} {Q E : Value → Shared → Prop} {c1 c2 : Addr} {oc1 oc2 : Obj} {vs1 vs2 : Array Value} {tk1 tk2 : Tok} {news : List (Addr × Obj)} {x : Int} {tx t4 : Tok},
      Below A₀ base outer h₀ →
      Fr h₀ L s.heap m →
      (hd.heap_39 w.params).In h₀ →
      News h₀ L s.heap ((37, tab2 c2) :: (c2, oc2) :: (30, tab1 c1) :: (c1, oc1) :: news) →
      Top topProg LL mean mg mb h₀ →
      cs.kind = .function →
      CodeHd base 41 37 →
      CodeHd base 34 30 →
      oc1.data = .fields vs1 →
      vs1[1]? = some (.str (Str.ofString "_int2digits.<locals>.inner") tk1) →
      oc2.data = .fields vs2 →
      vs2[1]? = some (.str (Str.ofString "_digits2int.<locals>.inner") tk2) →
      dp + 8 < recursionLimit →
      un + 100 < cLine →
      (256 ≤ x) →
      (x < 4096) →
      (∀ (d0 d1 d2 : Int) (t0 t1 t2 : Tok) D h' tk', Fr h₀ L h' m → News h₀ L h' ((D, W.listOf #[.int d0 t0, .int d1 t1, .int d2 t2] 0) :: (37, tab2 c2) :: (c2, oc2) :: (30, tab1 c1) :: (c1, oc1) :: news) → (∀ p ∈ ((37, tab2 c2) :: (c2, oc2) :: (30, tab1 c1) :: (c1, oc1) :: news : List (Addr × Obj)), p.1 < D) → x = d0 + 16 * d1 + 256 * d2 → 0 ≤ d0 → d0 < 16 → 0 ≤ d1 → d1 < 16 → 0 ≤ d2 → d2 < 16 → Q (.ref D) { s with heap := h', toks := tk' }) →
      wpAny (model PySem.Challenge.rw_gs0003_01.row.prog w) (ktrTop dp un gd cn cs L a ccd cl outer) (call (.ref 35) [.int x tx, .int 4 t4]) Q E s := by
  k_fill
  w_top off
  k_with_none
  k_with "enter" => (first | (refine' code_defL ?k1 ?k2 ?k3 ?k4 ?k5 ?kA ?kF ?kK ?k6 ?k7 ?k8 ?k9 ?kB ?_ ?c2 ?c3 ?c4 ?c5; (case kA => exact rfl); (case kF => exact rfl); (case kK => assumption); (case k1 => k_asm); (case k2 => k_asm); (case k3 => k_asm); (case k4 => k_asm); (case k5 => k_asm); (case k6 => k_is); (case k7 => k_is); (case k8 => k_room); (case k9 => exact BindsTo.of_eq rfl); (case c5 => decide); (case kB => exact locs rfl); (case c2 => exact rfl); (case c3 => exact rfl); (case c4 => exact rfl); k_whole; intro g' L' h' FG' F' N' B' X' T' l1; (try k_lt l1); (try dsimp only); (try k_lift B'); (try k_fold)) | (refine' code_defC ?k1 ?k2 ?k3 ?k4 ?k5 ?kA ?kF ?kK ?k6 ?k7 ?k8 ?k9 ?kB ?kD ?_ ?c2 ?c3 ?c4; (case kA => exact rfl); (case kF => exact rfl); (case kK => assumption); (case k1 => k_asm); (case k2 => k_asm); (case k3 => k_asm); (case k4 => k_asm); (case k5 => k_asm); (case k6 => k_is); (case k7 => k_is); (case k8 => k_room); (case k9 => exact BindsTo.of_eq rfl); (case kB => exact rfl); (case kD => decide +kernel); (case c2 => exact rfl); (case c3 => exact rfl); (case c4 => exact rfl); k_whole; intro g' L' h' tk' cells' FG' F' N' Y' B' X' T' l1; (try k_lt l1); k_cells Y'; (try simp only [List.cons_append, List.nil_append] at N'); (try dsimp only); (try k_lift B'); (try k_fold)))
  k_with "call builtin:divmod" => (k_here; k_dflt (refine' divmod_L ?k1 ?k2 ?k3 ?k4 ?_; (case k1 => k_asm); (case k2 => k_asm); (case k3 => omega); (case k4 => omega); k_whole); intro D' h' F' N' l1; (try k_lt l1); (try k_sweep))
  k_with "binaryOp Mult ref int" => (k_here; (rename (Int.fdiv _ _ = (_ : Int)) => hb9'); rw [hb9'])
  intro w mean mg mb dp un gd cn cs a ccd cl outer A₀ base h₀ L m s Q E c1 c2 oc1 oc2 vs1 vs2 tk1 tk2 news x tx t4 B F X N T hk C1 C2 d1 v1 d2 v2 hd hu hx0 hx1 hret
  refine wpAny_call ?_
  k_dflt k_enter
  have hbits : ((Builtin.Int.intBits x : Int) + 4 - 1).fdiv 4 = 3 := by have h1 := bits_le (k := 12) (x := x) (by omega) (by omega); have h2 := bits_ge (k := 8) (x := x) (by omega); rw [Int.fdiv_eq_ediv_of_nonneg _ (by omega)]; omega
  (rename (_ ∧ _ ∧ _ ∧ _ ∧ AllLt _ _) => hl)
  have hNL := hl.2.2.2.2
  k_steps
  all_goals first
    | (exfalso; simp only [decide_eq_true_eq, decide_eq_false_iff_not, Decidable.not_not, ne_eq] at *; omega)
    | skip
  refine' hret _ _ _ _ _ _ _ _ _ ?zf ?zn ?zl ?zq0 ?zq1 ?zq2 ?zq3 ?zq4 ?zq5 ?zq6
  case zn =>
    refine' subR ?zA ?zB ?zC
    case zA => assumption
    case zB => k_mem
    case zC => (intro p hp; repeat (first | exact hp | apply List.mem_cons_of_mem))
  case zf => assumption
  case zl => first | assumption | (refine ltFrom ?_; first | assumption | (simp only [AllLt, *, and_self, and_true, true_and]; done))
  case zq0 => first | omega | ((try simp only [Int.reduceToNat, Int.reducePow, Int.reduceFDiv, Int.reduceAdd, Int.reduceSub, Int.reduceMul, List.getD_cons_zero, List.getD_cons_succ]); (try rw [xor16 (by omega)]); (try rw [xor16 (by rw [fd16]; omega)]); (try rw [fd16]); (try rw [fd16]); omega)
  case zq1 => first | omega | ((try simp only [Int.reduceToNat, Int.reducePow, Int.reduceFDiv, Int.reduceAdd, Int.reduceSub, Int.reduceMul, List.getD_cons_zero, List.getD_cons_succ]); (try rw [xor16 (by omega)]); (try rw [xor16 (by rw [fd16]; omega)]); (try rw [fd16]); (try rw [fd16]); omega)
  case zq2 => first | omega | ((try simp only [Int.reduceToNat, Int.reducePow, Int.reduceFDiv, Int.reduceAdd, Int.reduceSub, Int.reduceMul, List.getD_cons_zero, List.getD_cons_succ]); (try rw [xor16 (by omega)]); (try rw [xor16 (by rw [fd16]; omega)]); (try rw [fd16]); (try rw [fd16]); omega)
  case zq3 => first | omega | ((try simp only [Int.reduceToNat, Int.reducePow, Int.reduceFDiv, Int.reduceAdd, Int.reduceSub, Int.reduceMul, List.getD_cons_zero, List.getD_cons_succ]); (try rw [xor16 (by omega)]); (try rw [xor16 (by rw [fd16]; omega)]); (try rw [fd16]); (try rw [fd16]); omega)
  case zq4 => first | omega | ((try simp only [Int.reduceToNat, Int.reducePow, Int.reduceFDiv, Int.reduceAdd, Int.reduceSub, Int.reduceMul, List.getD_cons_zero, List.getD_cons_succ]); (try rw [xor16 (by omega)]); (try rw [xor16 (by rw [fd16]; omega)]); (try rw [fd16]); (try rw [fd16]); omega)
  case zq5 => first | omega | ((try simp only [Int.reduceToNat, Int.reducePow, Int.reduceFDiv, Int.reduceAdd, Int.reduceSub, Int.reduceMul, List.getD_cons_zero, List.getD_cons_succ]); (try rw [xor16 (by omega)]); (try rw [xor16 (by rw [fd16]; omega)]); (try rw [fd16]); (try rw [fd16]); omega)
  case zq6 => first | omega | ((try simp only [Int.reduceToNat, Int.reducePow, Int.reduceFDiv, Int.reduceAdd, Int.reduceSub, Int.reduceMul, List.getD_cons_zero, List.getD_cons_succ]); (try rw [xor16 (by omega)]); (try rw [xor16 (by rw [fd16]; omega)]); (try rw [fd16]); (try rw [fd16]); omega)
theorem i2d3 : ∀ {w : World} {mean : ExcName → Option Value} {mg mb : Str → Option Value} {dp un : Nat} {gd : Option (List Code)} {cn : Str} {cs : Scope} {a : Addr} {ccd : Value} {cl : List (Str × Addr)} {outer : List Env} {A₀ : Around} {base h₀ : Heap} {L : Addr} {m : Str → Option Value} {s : Shared} {Q E : Value → Shared → Prop} {c1 c2 : Addr} {oc1 oc2 : Obj} {vs1 vs2 : Array Value} {tk1 tk2 : Tok} {news : List (Addr × Obj)} {x : Int} {tx t4 : Tok},
      Below A₀ base outer h₀ →
      Fr h₀ L s.heap m →
      (hd.heap_39 w.params).In h₀ →
      News h₀ L s.heap (news) →
      Top topProg LL mean mg mb h₀ →
      cs.kind = .function →
      CodeHd base 41 37 →
      CodeHd base 34 30 →
      (37, tab2 c2) ∈ news →
      (c2, oc2) ∈ news →
      (30, tab1 c1) ∈ news →
      (c1, oc1) ∈ news →
      oc1.data = .fields vs1 →
      vs1[1]? = some (.str (Str.ofString "_int2digits.<locals>.inner") tk1) →
      oc2.data = .fields vs2 →
      vs2[1]? = some (.str (Str.ofString "_digits2int.<locals>.inner") tk2) →
      dp + 8 < recursionLimit →
      un + 100 < cLine →
      (256 ≤ x) →
      (x < 4096) →
      (∀ (d0 d1 d2 : Int) (t0 t1 t2 : Tok) D h' tk', Fr h₀ L h' m → News h₀ L h' ((D, W.listOf #[.int d0 t0, .int d1 t1, .int d2 t2] 0) :: news) → (∀ p ∈ (news : List (Addr × Obj)), p.1 < D) → x = d0 + 16 * d1 + 256 * d2 → 0 ≤ d0 → d0 < 16 → 0 ≤ d1 → d1 < 16 → 0 ≤ d2 → d2 < 16 → Q (.ref D) { s with heap := h', toks := tk' }) →
      wpAny (model PySem.Challenge.rw_gs0003_01.row.prog w) (ktrTop dp un gd cn cs L a ccd cl outer) (call (.ref 35) [.int x tx, .int 4 t4]) Q E s := by
  intro w mean mg mb dp un gd cn cs a ccd cl outer A₀ base h₀ L m s Q E c1 c2 oc1 oc2 vs1 vs2 tk1 tk2 news x tx t4 B F X N T hk C1 C2 e1 e2 e3 e4 d1 v1 d2 v2 hd hu hx0 hx1 hret
  exact i2d3_in B F X (upN (upN (upN (upN N e4) e3) e2) e1) T hk C1 C2 d1 v1 d2 v2 hd hu hx0 hx1 (fun d0 d1 d2 t0 t1 t2 D h' tk' F' N' l' f0 f1 f2 f3 f4 f5 f6 => hret d0 d1 d2 t0 t1 t2 D h' tk' F' (dropN1 4 N') (dropL 4 l') f0 f1 f2 f3 f4 f5 f6)
end
end
section
section
theorem d2i0_in : ∀ {w : World} {mean : ExcName → Option Value} {mg mb : Str → Option Value} {dp un : Nat} {gd : Option (List Code)} {cn : Str} {cs : Scope} {a : Addr} {ccd : Value} {cl : List (Str × Addr)} {outer : List Env} {A₀ : Around} {base h₀ : Heap} {L : Addr} {m : Str → Option Value} {s : Shared} {Q E : Value → Shared → Prop} {c1 c2 : Addr} {oc1 oc2 : Obj} {vs1 vs2 : Array Value} {tk1 tk2 : Tok} {news : List (Addr × Obj)} {l : Addr} {c : Nat} {t4 : Tok},
      Below A₀ base outer h₀ →
      Fr h₀ L s.heap m →
      (hd.heap_39 w.params).In h₀ →
      News h₀ L s.heap ((l, W.listOf #[] c) :: (37, tab2 c2) :: (c2, oc2) :: (30, tab1 c1) :: (c1, oc1) :: news) →
      Top topProg LL mean mg mb h₀ →
      cs.kind = .function →
      CodeHd base 41 37 →
      CodeHd base 34 30 →
      oc1.data = .fields vs1 →
      vs1[1]? = some (.str (Str.ofString "_int2digits.<locals>.inner") tk1) →
      oc2.data = .fields vs2 →
      vs2[1]? = some (.str (Str.ofString "_digits2int.<locals>.inner") tk2) →
      dp + 8 < recursionLimit →
      un + 100 < cLine →
      (∀ t h' tk', Fr h₀ L h' m → News h₀ L h' ((l, W.listOf #[] c) :: (37, tab2 c2) :: (c2, oc2) :: (30, tab1 c1) :: (c1, oc1) :: news) → Q (.int (0) t) { s with heap := h', toks := tk' }) →
      wpAny (model PySem.Challenge.rw_gs0003_01.row.prog w) (ktrTop dp un gd cn cs L a ccd cl outer) (call (.ref 42) [.ref l, .int 4 t4]) Q E s := by
  k_fill
  w_top off
  k_with_none
  k_with "enter" => (first | (refine' code_defL ?k1 ?k2 ?k3 ?k4 ?k5 ?kA ?kF ?kK ?k6 ?k7 ?k8 ?k9 ?kB ?_ ?c2 ?c3 ?c4 ?c5; (case kA => exact rfl); (case kF => exact rfl); (case kK => assumption); (case k1 => k_asm); (case k2 => k_asm); (case k3 => k_asm); (case k4 => k_asm); (case k5 => k_asm); (case k6 => k_is); (case k7 => k_is); (case k8 => k_room); (case k9 => exact BindsTo.of_eq rfl); (case c5 => decide); (case kB => exact locs rfl); (case c2 => exact rfl); (case c3 => exact rfl); (case c4 => exact rfl); k_whole; intro g' L' h' FG' F' N' B' X' T' l1; (try k_lt l1); (try dsimp only); (try k_lift B'); (try k_fold)) | (refine' code_defC ?k1 ?k2 ?k3 ?k4 ?k5 ?kA ?kF ?kK ?k6 ?k7 ?k8 ?k9 ?kB ?kD ?_ ?c2 ?c3 ?c4; (case kA => exact rfl); (case kF => exact rfl); (case kK => assumption); (case k1 => k_asm); (case k2 => k_asm); (case k3 => k_asm); (case k4 => k_asm); (case k5 => k_asm); (case k6 => k_is); (case k7 => k_is); (case k8 => k_room); (case k9 => exact BindsTo.of_eq rfl); (case kB => exact rfl); (case kD => decide +kernel); (case c2 => exact rfl); (case c3 => exact rfl); (case c4 => exact rfl); k_whole; intro g' L' h' tk' cells' FG' F' N' Y' B' X' T' l1; (try k_lt l1); k_cells Y'; (try simp only [List.cons_append, List.nil_append] at N'); (try dsimp only); (try k_lift B'); (try k_fold)))
  k_with "call builtin:divmod" => (k_here; k_dflt (refine' divmod_L ?k1 ?k2 ?k3 ?k4 ?_; (case k1 => k_asm); (case k2 => k_asm); (case k3 => omega); (case k4 => omega); k_whole); intro D' h' F' N' l1; (try k_lt l1); (try k_sweep))
  intro w mean mg mb dp un gd cn cs a ccd cl outer A₀ base h₀ L m s Q E c1 c2 oc1 oc2 vs1 vs2 tk1 tk2 news l c t4 B F X N T hk C1 C2 d1 v1 d2 v2 hd hu hret
  refine wpAny_call ?_
  k_dflt k_enter
  (rename (_ ∧ _ ∧ _ ∧ _ ∧ _ ∧ AllLt _ _) => hl)
  have hNL := hl.2.2.2.2.2
  k_steps
  refine' cb_retI (Q := Q) (s := s) hret ?ze ?zf ?zn
  case zn => first | assumption | exact cb_drop (by assumption) (by intro p hp; repeat (first | exact hp | apply List.mem_cons_of_mem))
  case zf => assumption
  case ze => first | rfl | (simp only [Int.reduceToNat, Int.reducePow, Int.reduceFDiv, Int.reduceAdd, Int.reduceSub, Int.reduceMul, List.getD_cons_zero, List.getD_cons_succ]; done) | (simp only [Int.reduceToNat, Int.reducePow, Int.reduceFDiv, Int.reduceAdd, Int.reduceSub, Int.reduceMul, List.getD_cons_zero, List.getD_cons_succ]; omega)
theorem d2i0 : ∀ {w : World} {mean : ExcName → Option Value} {mg mb : Str → Option Value} {dp un : Nat} {gd : Option (List Code)} {cn : Str} {cs : Scope} {a : Addr} {ccd : Value} {cl : List (Str × Addr)} {outer : List Env} {A₀ : Around} {base h₀ : Heap} {L : Addr} {m : Str → Option Value} {s : Shared} {Q E : Value → Shared → Prop} {c1 c2 : Addr} {oc1 oc2 : Obj} {vs1 vs2 : Array Value} {tk1 tk2 : Tok} {news : List (Addr × Obj)} {l : Addr} {c : Nat} {t4 : Tok},
      Below A₀ base outer h₀ →
      Fr h₀ L s.heap m →
      (hd.heap_39 w.params).In h₀ →
      News h₀ L s.heap (news) →
      Top topProg LL mean mg mb h₀ →
      cs.kind = .function →
      CodeHd base 41 37 →
      CodeHd base 34 30 →
      (37, tab2 c2) ∈ news →
      (c2, oc2) ∈ news →
      (30, tab1 c1) ∈ news →
      (c1, oc1) ∈ news →
      oc1.data = .fields vs1 →
      vs1[1]? = some (.str (Str.ofString "_int2digits.<locals>.inner") tk1) →
      oc2.data = .fields vs2 →
      vs2[1]? = some (.str (Str.ofString "_digits2int.<locals>.inner") tk2) →
      (l, W.listOf #[] c) ∈ news →
      dp + 8 < recursionLimit →
      un + 100 < cLine →
      (∀ t h' tk', Fr h₀ L h' m → News h₀ L h' (news) → Q (.int (0) t) { s with heap := h', toks := tk' }) →
      wpAny (model PySem.Challenge.rw_gs0003_01.row.prog w) (ktrTop dp un gd cn cs L a ccd cl outer) (call (.ref 42) [.ref l, .int 4 t4]) Q E s := by
  intro w mean mg mb dp un gd cn cs a ccd cl outer A₀ base h₀ L m s Q E c1 c2 oc1 oc2 vs1 vs2 tk1 tk2 news l c t4 B F X N T hk C1 C2 e1 e2 e3 e4 d1 v1 d2 v2 g0 hd hu hret
  exact d2i0_in B F X (upN (upN (upN (upN (upN N e4) e3) e2) e1) g0) T hk C1 C2 d1 v1 d2 v2 hd hu (fun t h' tk' F' N' => hret t h' tk' F' (dropN 5 N'))
end
end
section
section
theorem d2i1_in : ∀ {w : World} {mean : ExcName → Option Value} {mg mb : Str → Option Value} {dp un : Nat} {gd : Option (List Code)} {cn : Str} {cs : Scope} {a : Addr} {ccd : Value} {cl : List (Str × Addr)} {outer : List Env} {A₀ : Around} {base h₀ : Heap} {L : Addr} {m : Str → Option Value} {s : Shared} {Q E : Value → Shared → Prop} {c1 c2 : Addr} {oc1 oc2 : Obj} {vs1 vs2 : Array Value} {tk1 tk2 : Tok} {news : List (Addr × Obj)} {l : Addr} {c : Nat} {t4 : Tok} {e0 : Int} {t0 : Tok},
      Below A₀ base outer h₀ →
      Fr h₀ L s.heap m →
      (hd.heap_39 w.params).In h₀ →
      News h₀ L s.heap ((l, W.listOf #[.int e0 t0] c) :: (37, tab2 c2) :: (c2, oc2) :: (30, tab1 c1) :: (c1, oc1) :: news) →
      Top topProg LL mean mg mb h₀ →
      cs.kind = .function →
      CodeHd base 41 37 →
      CodeHd base 34 30 →
      oc1.data = .fields vs1 →
      vs1[1]? = some (.str (Str.ofString "_int2digits.<locals>.inner") tk1) →
      oc2.data = .fields vs2 →
      vs2[1]? = some (.str (Str.ofString "_digits2int.<locals>.inner") tk2) →
      dp + 8 < recursionLimit →
      un + 100 < cLine →
      (0 ≤ e0) →
      (e0 < 4096) →
      (∀ t h' tk', Fr h₀ L h' m → News h₀ L h' ((l, W.listOf #[.int e0 t0] c) :: (37, tab2 c2) :: (c2, oc2) :: (30, tab1 c1) :: (c1, oc1) :: news) → Q (.int (e0) t) { s with heap := h', toks := tk' }) →
      wpAny (model PySem.Challenge.rw_gs0003_01.row.prog w) (ktrTop dp un gd cn cs L a ccd cl outer) (call (.ref 42) [.ref l, .int 4 t4]) Q E s := by
  k_fill
  w_top off
  k_with_none
  k_with "enter" => (first | (refine' code_defL ?k1 ?k2 ?k3 ?k4 ?k5 ?kA ?kF ?kK ?k6 ?k7 ?k8 ?k9 ?kB ?_ ?c2 ?c3 ?c4 ?c5; (case kA => exact rfl); (case kF => exact rfl); (case kK => assumption); (case k1 => k_asm); (case k2 => k_asm); (case k3 => k_asm); (case k4 => k_asm); (case k5 => k_asm); (case k6 => k_is); (case k7 => k_is); (case k8 => k_room); (case k9 => exact BindsTo.of_eq rfl); (case c5 => decide); (case kB => exact locs rfl); (case c2 => exact rfl); (case c3 => exact rfl); (case c4 => exact rfl); k_whole; intro g' L' h' FG' F' N' B' X' T' l1; (try k_lt l1); (try dsimp only); (try k_lift B'); (try k_fold)) | (refine' code_defC ?k1 ?k2 ?k3 ?k4 ?k5 ?kA ?kF ?kK ?k6 ?k7 ?k8 ?k9 ?kB ?kD ?_ ?c2 ?c3 ?c4; (case kA => exact rfl); (case kF => exact rfl); (case kK => assumption); (case k1 => k_asm); (case k2 => k_asm); (case k3 => k_asm); (case k4 => k_asm); (case k5 => k_asm); (case k6 => k_is); (case k7 => k_is); (case k8 => k_room); (case k9 => exact BindsTo.of_eq rfl); (case kB => exact rfl); (case kD => decide +kernel); (case c2 => exact rfl); (case c3 => exact rfl); (case c4 => exact rfl); k_whole; intro g' L' h' tk' cells' FG' F' N' Y' B' X' T' l1; (try k_lt l1); k_cells Y'; (try simp only [List.cons_append, List.nil_append] at N'); (try dsimp only); (try k_lift B'); (try k_fold)))
  k_with "call builtin:divmod" => (k_here; k_dflt (refine' divmod_L ?k1 ?k2 ?k3 ?k4 ?_; (case k1 => k_asm); (case k2 => k_asm); (case k3 => omega); (case k4 => omega); k_whole); intro D' h' F' N' l1; (try k_lt l1); (try k_sweep))
  intro w mean mg mb dp un gd cn cs a ccd cl outer A₀ base h₀ L m s Q E c1 c2 oc1 oc2 vs1 vs2 tk1 tk2 news l c t4 e0 t0 B F X N T hk C1 C2 d1 v1 d2 v2 hd hu h0a h0b hret
  refine wpAny_call ?_
  k_dflt k_enter
  (rename (_ ∧ _ ∧ _ ∧ _ ∧ _ ∧ AllLt _ _) => hl)
  have hNL := hl.2.2.2.2.2
  k_steps
  refine' cb_retI (Q := Q) (s := s) hret ?ze ?zf ?zn
  case zn => first | assumption | exact cb_drop (by assumption) (by intro p hp; repeat (first | exact hp | apply List.mem_cons_of_mem))
  case zf => assumption
  case ze => first | rfl | (simp only [Int.reduceToNat, Int.reducePow, Int.reduceFDiv, Int.reduceAdd, Int.reduceSub, Int.reduceMul, List.getD_cons_zero, List.getD_cons_succ]; done) | (simp only [Int.reduceToNat, Int.reducePow, Int.reduceFDiv, Int.reduceAdd, Int.reduceSub, Int.reduceMul, List.getD_cons_zero, List.getD_cons_succ]; omega)
theorem d2i1 : ∀ {w : World} {mean : ExcName → Option Value} {mg mb : Str → Option Value} {dp un : Nat} {gd : Option (List Code)} {cn : Str} {cs : Scope} {a : Addr} {ccd : Value} {cl : List (Str × Addr)} {outer : List Env} {A₀ : Around} {base h₀ : Heap} {L : Addr} {m : Str → Option Value} {s : Shared} {Q E : Value → Shared → Prop} {c1 c2 : Addr} {oc1 oc2 : Obj} {vs1 vs2 : Array Value} {tk1 tk2 : Tok} {news : List (Addr × Obj)} {l : Addr} {c : Nat} {t4 : Tok} {e0 : Int} {t0 : Tok},
      Below A₀ base outer h₀ →
      Fr h₀ L s.heap m →
      (hd.heap_39 w.params).In h₀ →
      News h₀ L s.heap (news) →
      Top topProg LL mean mg mb h₀ →
      cs.kind = .function →
      CodeHd base 41 37 →
      CodeHd base 34 30 →
      (37, tab2 c2) ∈ news →
      (c2, oc2) ∈ news →
      (30, tab1 c1) ∈ news →
      (c1, oc1) ∈ news →
      oc1.data = .fields vs1 →
      vs1[1]? = some (.str (Str.ofString "_int2digits.<locals>.inner") tk1) →
      oc2.data = .fields vs2 →
      vs2[1]? = some (.str (Str.ofString "_digits2int.<locals>.inner") tk2) →
      (l, W.listOf #[.int e0 t0] c) ∈ news →
      dp + 8 < recursionLimit →
      un + 100 < cLine →
      (0 ≤ e0) →
      (e0 < 4096) →
      (∀ t h' tk', Fr h₀ L h' m → News h₀ L h' (news) → Q (.int (e0) t) { s with heap := h', toks := tk' }) →
      wpAny (model PySem.Challenge.rw_gs0003_01.row.prog w) (ktrTop dp un gd cn cs L a ccd cl outer) (call (.ref 42) [.ref l, .int 4 t4]) Q E s := by
  intro w mean mg mb dp un gd cn cs a ccd cl outer A₀ base h₀ L m s Q E c1 c2 oc1 oc2 vs1 vs2 tk1 tk2 news l c t4 e0 t0 B F X N T hk C1 C2 e1 e2 e3 e4 d1 v1 d2 v2 g0 hd hu h0a h0b hret
  exact d2i1_in B F X (upN (upN (upN (upN (upN N e4) e3) e2) e1) g0) T hk C1 C2 d1 v1 d2 v2 hd hu h0a h0b (fun t h' tk' F' N' => hret t h' tk' F' (dropN 5 N'))
end
end
section
section
theorem d2i2_in : ∀ {w : World} {mean : ExcName → Option Value} {mg mb : Str → Option Value} {dp un : Nat} {gd : Option (List Code)} {cn : Str} {cs : Scope} {a : Addr} {ccd : Value} {cl : List (Str × Addr)} {outer : List Env} {A₀ : Around} {base h₀ : Heap} {L : Addr} {m : Str → Option Value} {s : Shared} {Q E : Value → Shared → Prop} {c1 c2 : Addr} {oc1 oc2 : Obj} {vs1 vs2 : Array Value} {tk1 tk2 : Tok} {news : List (Addr × Obj)} {l : Addr} {c : Nat} {t4 : Tok} {e0 e1 : Int} {t0 t1 : Tok},
      Below A₀ base outer h₀ →
      Fr h₀ L s.heap m →
      (hd.heap_39 w.params).In h₀ →
      News h₀ L s.heap ((l, W.listOf #[.int e0 t0, .int e1 t1] c) :: (37, tab2 c2) :: (c2, oc2) :: (30, tab1 c1) :: (c1, oc1) :: news) →
      Top topProg LL mean mg mb h₀ →
      cs.kind = .function →
      CodeHd base 41 37 →
      CodeHd base 34 30 →
      oc1.data = .fields vs1 →
      vs1[1]? = some (.str (Str.ofString "_int2digits.<locals>.inner") tk1) →
      oc2.data = .fields vs2 →
      vs2[1]? = some (.str (Str.ofString "_digits2int.<locals>.inner") tk2) →
      dp + 8 < recursionLimit →
      un + 100 < cLine →
      (0 ≤ e0) →
      (e0 < 4096) →
      (0 ≤ e1) →
      (e1 < 4096) →
      (∀ t h' tk', Fr h₀ L h' m → News h₀ L h' ((l, W.listOf #[.int e0 t0, .int e1 t1] c) :: (37, tab2 c2) :: (c2, oc2) :: (30, tab1 c1) :: (c1, oc1) :: news) → Q (.int (e0 + 16 * e1) t) { s with heap := h', toks := tk' }) →
      wpAny (model PySem.Challenge.rw_gs0003_01.row.prog w) (ktrTop dp un gd cn cs L a ccd cl outer) (call (.ref 42) [.ref l, .int 4 t4]) Q E s := by
  k_fill
  w_top off
  k_with_none
  k_with "enter" => (first | (refine' code_defL ?k1 ?k2 ?k3 ?k4 ?k5 ?kA ?kF ?kK ?k6 ?k7 ?k8 ?k9 ?kB ?_ ?c2 ?c3 ?c4 ?c5; (case kA => exact rfl); (case kF => exact rfl); (case kK => assumption); (case k1 => k_asm); (case k2 => k_asm); (case k3 => k_asm); (case k4 => k_asm); (case k5 => k_asm); (case k6 => k_is); (case k7 => k_is); (case k8 => k_room); (case k9 => exact BindsTo.of_eq rfl); (case c5 => decide); (case kB => exact locs rfl); (case c2 => exact rfl); (case c3 => exact rfl); (case c4 => exact rfl); k_whole; intro g' L' h' FG' F' N' B' X' T' l1; (try k_lt l1); (try dsimp only); (try k_lift B'); (try k_fold)) | (refine' code_defC ?k1 ?k2 ?k3 ?k4 ?k5 ?kA ?kF ?kK ?k6 ?k7 ?k8 ?k9 ?kB ?kD ?_ ?c2 ?c3 ?c4; (case kA => exact rfl); (case kF => exact rfl); (case kK => assumption); (case k1 => k_asm); (case k2 => k_asm); (case k3 => k_asm); (case k4 => k_asm); (case k5 => k_asm); (case k6 => k_is); (case k7 => k_is); (case k8 => k_room); (case k9 => exact BindsTo.of_eq rfl); (case kB => exact rfl); (case kD => decide +kernel); (case c2 => exact rfl); (case c3 => exact rfl); (case c4 => exact rfl); k_whole; intro g' L' h' tk' cells' FG' F' N' Y' B' X' T' l1; (try k_lt l1); k_cells Y'; (try simp only [List.cons_append, List.nil_append] at N'); (try dsimp only); (try k_lift B'); (try k_fold)))
  k_with "call builtin:divmod" => (k_here; k_dflt (refine' divmod_L ?k1 ?k2 ?k3 ?k4 ?_; (case k1 => k_asm); (case k2 => k_asm); (case k3 => omega); (case k4 => omega); k_whole); intro D' h' F' N' l1; (try k_lt l1); (try k_sweep))
  intro w mean mg mb dp un gd cn cs a ccd cl outer A₀ base h₀ L m s Q E c1 c2 oc1 oc2 vs1 vs2 tk1 tk2 news l c t4 e0 e1 t0 t1 B F X N T hk C1 C2 d1 v1 d2 v2 hd hu h0a h0b h1a h1b hret
  refine wpAny_call ?_
  k_dflt k_enter
  (rename (_ ∧ _ ∧ _ ∧ _ ∧ _ ∧ AllLt _ _) => hl)
  have hNL := hl.2.2.2.2.2
  k_steps
  refine' cb_retI (Q := Q) (s := s) hret ?ze ?zf ?zn
  case zn => first | assumption | exact cb_drop (by assumption) (by intro p hp; repeat (first | exact hp | apply List.mem_cons_of_mem))
  case zf => assumption
  case ze => first | rfl | (simp only [Int.reduceToNat, Int.reducePow, Int.reduceFDiv, Int.reduceAdd, Int.reduceSub, Int.reduceMul, List.getD_cons_zero, List.getD_cons_succ]; done) | (simp only [Int.reduceToNat, Int.reducePow, Int.reduceFDiv, Int.reduceAdd, Int.reduceSub, Int.reduceMul, List.getD_cons_zero, List.getD_cons_succ]; omega)
theorem d2i2 : ∀ {w : World} {mean : ExcName → Option Value} {mg mb : Str → Option Value} {dp un : Nat} {gd : Option (List Code)} {cn : Str} {cs : Scope} {a : Addr} {ccd : Value} {cl : List (Str × Addr)} {outer : List Env} {A₀ : Around} {base h₀ : Heap} {L : Addr} {m : Str → Option Value} {s : Shared} {Q E : Value → Shared → Prop} {c1 c2 : Addr} {oc1 oc2 : Obj} {vs1 vs2 : Array Value} {tk1 tk2 : Tok} {news : List (Addr × Obj)} {l : Addr} {c : Nat} {t4 : Tok} {e0 e1 : Int} {t0 t1 : Tok},
      Below A₀ base outer h₀ →
      Fr h₀ L s.heap m →
      (hd.heap_39 w.params).In h₀ →
      News h₀ L s.heap (news) →
      Top topProg LL mean mg mb h₀ →
      cs.kind = .function →
      CodeHd base 41 37 →
      CodeHd base 34 30 →
      (37, tab2 c2) ∈ news →
      (c2, oc2) ∈ news →
      (30, tab1 c1) ∈ news →
      (c1, oc1) ∈ news →
      oc1.data = .fields vs1 →
      vs1[1]? = some (.str (Str.ofString "_int2digits.<locals>.inner") tk1) →
      oc2.data = .fields vs2 →
      vs2[1]? = some (.str (Str.ofString "_digits2int.<locals>.inner") tk2) →
      (l, W.listOf #[.int e0 t0, .int e1 t1] c) ∈ news →
      dp + 8 < recursionLimit →
      un + 100 < cLine →
      (0 ≤ e0) →
      (e0 < 4096) →
      (0 ≤ e1) →
      (e1 < 4096) →
      (∀ t h' tk', Fr h₀ L h' m → News h₀ L h' (news) → Q (.int (e0 + 16 * e1) t) { s with heap := h', toks := tk' }) →
      wpAny (model PySem.Challenge.rw_gs0003_01.row.prog w) (ktrTop dp un gd cn cs L a ccd cl outer) (call (.ref 42) [.ref l, .int 4 t4]) Q E s := by
  intro w mean mg mb dp un gd cn cs a ccd cl outer A₀ base h₀ L m s Q E c1 c2 oc1 oc2 vs1 vs2 tk1 tk2 news l c t4 e0 e1 t0 t1 B F X N T hk C1 C2 e1 e2 e3 e4 d1 v1 d2 v2 g0 hd hu h0a h0b h1a h1b hret
  exact d2i2_in B F X (upN (upN (upN (upN (upN N e4) e3) e2) e1) g0) T hk C1 C2 d1 v1 d2 v2 hd hu h0a h0b h1a h1b (fun t h' tk' F' N' => hret t h' tk' F' (dropN 5 N'))
end
end
section
section
theorem d2i3_in : ∀ {w : World} {mean : ExcName → Option Value} {mg mb : Str → Option Value} {dp un : Nat} {gd : Option (List Code)} {cn : Str} {cs : Scope} {a : Addr} {ccd : Value} {cl : List (Str × Addr)} {outer : List Env} {A₀ : Around} {base h₀ : Heap} {L : Addr} {m : Str → Option Value} {s : Shared} {Q E : Value → Shared → Prop} {c1 c2 : Addr} {oc1 oc2 : Obj} {vs1 vs2 : Array Value} {tk1 tk2 : Tok} {news : List (Addr × Obj)} {l : Addr} {c : Nat} {t4 : Tok} {e0 e1 e2 : Int} {t0 t1 t2 : Tok},
      Below A₀ base outer h₀ →
      Fr h₀ L s.heap m →
      (hd.heap_39 w.params).In h₀ →
      News h₀ L s.heap ((l, W.listOf #[.int e0 t0, .int e1 t1, .int e2 t2] c) :: (37, tab2 c2) :: (c2, oc2) :: (30, tab1 c1) :: (c1, oc1) :: news) →
      Top topProg LL mean mg mb h₀ →
      cs.kind = .function →
      CodeHd base 41 37 →
      CodeHd base 34 30 →
      oc1.data = .fields vs1 →
      vs1[1]? = some (.str (Str.ofString "_int2digits.<locals>.inner") tk1) →
      oc2.data = .fields vs2 →
      vs2[1]? = some (.str (Str.ofString "_digits2int.<locals>.inner") tk2) →
      dp + 8 < recursionLimit →
      un + 100 < cLine →
      (0 ≤ e0) →
      (e0 < 4096) →
      (0 ≤ e1) →
      (e1 < 4096) →
      (0 ≤ e2) →
      (e2 < 4096) →
      (∀ t h' tk', Fr h₀ L h' m → News h₀ L h' ((l, W.listOf #[.int e0 t0, .int e1 t1, .int e2 t2] c) :: (37, tab2 c2) :: (c2, oc2) :: (30, tab1 c1) :: (c1, oc1) :: news) → Q (.int (e0 + 16 * e1 + 256 * e2) t) { s with heap := h', toks := tk' }) →
      wpAny (model PySem.Challenge.rw_gs0003_01.row.prog w) (ktrTop dp un gd cn cs L a ccd cl outer) (call (.ref 42) [.ref l, .int 4 t4]) Q E s := by
  k_fill
  w_top off
  k_with_none
  k_with "enter" => (first | (refine' code_defL ?k1 ?k2 ?k3 ?k4 ?k5 ?kA ?kF ?kK ?k6 ?k7 ?k8 ?k9 ?kB ?_ ?c2 ?c3 ?c4 ?c5; (case kA => exact rfl); (case kF => exact rfl); (case kK => assumption); (case k1 => k_asm); (case k2 => k_asm); (case k3 => k_asm); (case k4 => k_asm); (case k5 => k_asm); (case k6 => k_is); (case k7 => k_is); (case k8 => k_room); (case k9 => exact BindsTo.of_eq rfl); (case c5 => decide); (case kB => exact locs rfl); (case c2 => exact rfl); (case c3 => exact rfl); (case c4 => exact rfl); k_whole; intro g' L' h' FG' F' N' B' X' T' l1; (try k_lt l1); (try dsimp only); (try k_lift B'); (try k_fold)) | (refine' code_defC ?k1 ?k2 ?k3 ?k4 ?k5 ?kA ?kF ?kK ?k6 ?k7 ?k8 ?k9 ?kB ?kD ?_ ?c2 ?c3 ?c4; (case kA => exact rfl); (case kF => exact rfl); (case kK => assumption); (case k1 => k_asm); (case k2 => k_asm); (case k3 => k_asm); (case k4 => k_asm); (case k5 => k_asm); (case k6 => k_is); (case k7 => k_is); (case k8 => k_room); (case k9 => exact BindsTo.of_eq rfl); (case kB => exact rfl); (case kD => decide +kernel); (case c2 => exact rfl); (case c3 => exact rfl); (case c4 => exact rfl); k_whole; intro g' L' h' tk' cells' FG' F' N' Y' B' X' T' l1; (try k_lt l1); k_cells Y'; (try simp only [List.cons_append, List.nil_append] at N'); (try dsimp only); (try k_lift B'); (try k_fold)))
  k_with "call builtin:divmod" => (k_here; k_dflt (refine' divmod_L ?k1 ?k2 ?k3 ?k4 ?_; (case k1 => k_asm); (case k2 => k_asm); (case k3 => omega); (case k4 => omega); k_whole); intro D' h' F' N' l1; (try k_lt l1); (try k_sweep))
  intro w mean mg mb dp un gd cn cs a ccd cl outer A₀ base h₀ L m s Q E c1 c2 oc1 oc2 vs1 vs2 tk1 tk2 news l c t4 e0 e1 e2 t0 t1 t2 B F X N T hk C1 C2 d1 v1 d2 v2 hd hu h0a h0b h1a h1b h2a h2b hret
  refine wpAny_call ?_
  k_dflt k_enter
  (rename (_ ∧ _ ∧ _ ∧ _ ∧ _ ∧ AllLt _ _) => hl)
  have hNL := hl.2.2.2.2.2
  k_steps
  refine' cb_retI (Q := Q) (s := s) hret ?ze ?zf ?zn
  case zn => first | assumption | exact cb_drop (by assumption) (by intro p hp; repeat (first | exact hp | apply List.mem_cons_of_mem))
  case zf => assumption
  case ze => first | rfl | (simp only [Int.reduceToNat, Int.reducePow, Int.reduceFDiv, Int.reduceAdd, Int.reduceSub, Int.reduceMul, List.getD_cons_zero, List.getD_cons_succ]; done) | (simp only [Int.reduceToNat, Int.reducePow, Int.reduceFDiv, Int.reduceAdd, Int.reduceSub, Int.reduceMul, List.getD_cons_zero, List.getD_cons_succ]; omega)
theorem d2i3 : ∀ {w : World} {mean : ExcName → Option Value} {mg mb : Str → Option Value} {dp un : Nat} {gd : Option (List Code)} {cn : Str} {cs : Scope} {a : Addr} {ccd : Value} {cl : List (Str × Addr)} {outer : List Env} {A₀ : Around} {base h₀ : Heap} {L : Addr} {m : Str → Option Value} {s : Shared} {Q E : Value → Shared → Prop} {c1 c2 : Addr} {oc1 oc2 : Obj} {vs1 vs2 : Array Value} {tk1 tk2 : Tok} {news : List (Addr × Obj)} {l : Addr} {c : Nat} {t4 : Tok} {e0 e1 e2 : Int} {t0 t1 t2 : Tok},
      Below A₀ base outer h₀ →
      Fr h₀ L s.heap m →
      (hd.heap_39 w.params).In h₀ →
      News h₀ L s.heap (news) →
      Top topProg LL mean mg mb h₀ →
      cs.kind = .function →
      CodeHd base 41 37 →
      CodeHd base 34 30 →
      (37, tab2 c2) ∈ news →
      (c2, oc2) ∈ news →
      (30, tab1 c1) ∈ news →
      (c1, oc1) ∈ news →
      oc1.data = .fields vs1 →
      vs1[1]? = some (.str (Str.ofString "_int2digits.<locals>.inner") tk1) →
      oc2.data = .fields vs2 →
      vs2[1]? = some (.str (Str.ofString "_digits2int.<locals>.inner") tk2) →
      (l, W.listOf #[.int e0 t0, .int e1 t1, .int e2 t2] c) ∈ news →
      dp + 8 < recursionLimit →
      un + 100 < cLine →
      (0 ≤ e0) →
      (e0 < 4096) →
      (0 ≤ e1) →
      (e1 < 4096) →
      (0 ≤ e2) →
      (e2 < 4096) →
      (∀ t h' tk', Fr h₀ L h' m → News h₀ L h' (news) → Q (.int (e0 + 16 * e1 + 256 * e2) t) { s with heap := h', toks := tk' }) →
      wpAny (model PySem.Challenge.rw_gs0003_01.row.prog w) (ktrTop dp un gd cn cs L a ccd cl outer) (call (.ref 42) [.ref l, .int 4 t4]) Q E s := by
  intro w mean mg mb dp un gd cn cs a ccd cl outer A₀ base h₀ L m s Q E c1 c2 oc1 oc2 vs1 vs2 tk1 tk2 news l c t4 e0 e1 e2 t0 t1 t2 B F X N T hk C1 C2 e1 e2 e3 e4 d1 v1 d2 v2 g0 hd hu h0a h0b h1a h1b h2a h2b hret
  exact d2i3_in B F X (upN (upN (upN (upN (upN N e4) e3) e2) e1) g0) T hk C1 C2 d1 v1 d2 v2 hd hu h0a h0b h1a h1b h2a h2b (fun t h' tk' F' N' => hret t h' tk' F' (dropN 5 N'))
end
end
section
section
theorem dmp0 : ∀ {w : World} {mean : ExcName → Option Value} {mg mb : Str → Option Value} {dp un : Nat} {gd : Option (List Code)} {cn : Str} {cs : Scope} {a : Addr} {ccd : Value} {cl : List (Str × Addr)} {outer : List Env} {A₀ : Around} {base h₀ : Heap} {L : Addr} {m : Str → Option Value} {s : Shared} {Q E : Value → Shared → Prop} {c1 c2 : Addr} {oc1 oc2 : Obj} {vs1 vs2 : Array Value} {tk1 tk2 : Tok} {news : List (Addr × Obj)} {b : Int} {tx tb : Tok},
      Below A₀ base outer h₀ →
      Fr h₀ L s.heap m →
      (hd.heap_39 w.params).In h₀ →
      News h₀ L s.heap (news) →
      Top topProg LL mean mg mb h₀ →
      cs.kind = .function →
      CodeHd base 41 37 →
      CodeHd base 34 30 →
      (37, tab2 c2) ∈ news →
      (c2, oc2) ∈ news →
      (30, tab1 c1) ∈ news →
      (c1, oc1) ∈ news →
      oc1.data = .fields vs1 →
      vs1[1]? = some (.str (Str.ofString "_int2digits.<locals>.inner") tk1) →
      oc2.data = .fields vs2 →
      vs2[1]? = some (.str (Str.ofString "_digits2int.<locals>.inner") tk2) →
      dp + 12 < recursionLimit →
      un + 140 < cLine →
      (b = 10 ∨ b = 11) →
      (∀ (q r : Int) (t1 t2 : Tok) (c : Nat) D h' tk', Fr h₀ L h' m → News h₀ L h' ((D, pairO q r t1 t2 c) :: news) → (∀ p ∈ (news : List (Addr × Obj)), p.1 < D) → DivR 0 b q r → Q (.ref D) { s with heap := h', toks := tk' }) →
      wpAny (model PySem.Challenge.rw_gs0003_01.row.prog w) (ktrTop dp un gd cn cs L a ccd cl outer) (call (.ref 49) [.int 0 tx, .int b tb]) Q E s := by
  k_fill
  w_top off
  k_with_none
  k_with "enter" => (first | (refine' code_defL ?k1 ?k2 ?k3 ?k4 ?k5 ?kA ?kF ?kK ?k6 ?k7 ?k8 ?k9 ?kB ?_ ?c2 ?c3 ?c4 ?c5; (case kA => exact rfl); (case kF => exact rfl); (case kK => assumption); (case k1 => k_asm); (case k2 => k_asm); (case k3 => k_asm); (case k4 => k_asm); (case k5 => k_asm); (case k6 => k_is); (case k7 => k_is); (case k8 => k_room); (case k9 => exact BindsTo.of_eq rfl); (case c5 => decide); (case kB => exact locs rfl); (case c2 => exact rfl); (case c3 => exact rfl); (case c4 => exact rfl); k_whole; intro g' L' h' FG' F' N' B' X' T' l1; (try k_lt l1); (try dsimp only); (try k_lift B'); (try k_fold)) | (refine' code_defC ?k1 ?k2 ?k3 ?k4 ?k5 ?kA ?kF ?kK ?k6 ?k7 ?k8 ?k9 ?kB ?kD ?_ ?c2 ?c3 ?c4; (case kA => exact rfl); (case kF => exact rfl); (case kK => assumption); (case k1 => k_asm); (case k2 => k_asm); (case k3 => k_asm); (case k4 => k_asm); (case k5 => k_asm); (case k6 => k_is); (case k7 => k_is); (case k8 => k_room); (case k9 => exact BindsTo.of_eq rfl); (case kB => exact rfl); (case kD => decide +kernel); (case c2 => exact rfl); (case c3 => exact rfl); (case c4 => exact rfl); k_whole; intro g' L' h' tk' cells' FG' F' N' Y' B' X' T' l1; (try k_lt l1); k_cells Y'; (try simp only [List.cons_append, List.nil_append] at N'); (try dsimp only); (try k_lift B'); (try k_fold)))
  k_with "call builtin:divmod" => (k_here; k_dflt (refine' divmod_L ?k1 ?k2 ?k3 ?k4 ?_; (case k1 => k_asm); (case k2 => k_asm); (case k3 => omega); (case k4 => omega); k_whole); intro D' h' F' N' l1; (try k_lt l1); (try k_sweep))
  k_with "call builtin:int.bit_length" => (k_here; (rename (((Builtin.Int.intBits _ : Nat) : Int) = (4 : Int)) => hb9'); (refine call_int_bit_length ?_); rw [hb9'])
  k_with "newTuple" => (k_here; k_dflt (refine' newTuple_L ?F ?N ?_ ?z; (case F => k_asm); (case N => k_asm); (case z => size_fits)); intro D' h' F' N' l1 l2; (try k_lt l1); (try k_sweep))
  k_with "call ref" => (k_here; k_dflt (refine' div_S ?z_B ?z_F ?z_X ?z_N ?z_T ?z_hk ?z_hd ?z_hu ?z_hx0 ?z_hx1 ?z_hb0 ?z_hb1 ?z_hn0 ?z_hn1 ?_; (case z_B => k_asm); (case z_F => k_asm); (case z_X => k_asm); (case z_N => k_asm); (case z_T => k_asm); (case z_hk => first | exact rfl | with_reducible assumption | assumption); (case z_hd => cb_room); (case z_hu => cb_units); (case z_hx0 => ((try simp only [Int.reduceToNat, Int.reducePow]); omega)); (case z_hx1 => ((try simp only [Int.reduceToNat, Int.reducePow]); omega)); (case z_hb0 => omega); (case z_hb1 => omega); (case z_hn0 => omega); (case z_hn1 => omega); k_whole); intro q' r' t1' t2' c' D' h' tk' F' N' l1 f0' f1' f2' f3' f4'; (try k_lt l1); (try dsimp only); (try k_sweep); (try k_fold))
  k_with "call ref" => (k_here; k_dflt (refine' i2d0 ?z_B ?z_F ?z_X ?z_N ?z_T ?z_hk ?z_C1 ?z_C2 ?z_e1 ?z_e2 ?z_e3 ?z_e4 ?z_d1 ?z_v1 ?z_d2 ?z_v2 ?z_hd ?z_hu ?_; (case z_B => k_asm); (case z_F => k_asm); (case z_X => k_asm); (case z_N => k_asm); (case z_T => k_asm); (case z_hk => first | exact rfl | with_reducible assumption | assumption); (case z_C1 => kn_code); (case z_C2 => kn_code); (case z_e1 => (repeat (first | exact List.Mem.head _ | apply List.Mem.tail))); (case z_e2 => (repeat (first | exact List.Mem.head _ | apply List.Mem.tail))); (case z_e3 => (repeat (first | exact List.Mem.head _ | apply List.Mem.tail))); (case z_e4 => (repeat (first | exact List.Mem.head _ | apply List.Mem.tail))); (case z_d1 => k_asm); (case z_v1 => k_asm); (case z_d2 => k_asm); (case z_v2 => k_asm); (case z_hd => cb_room); (case z_hu => cb_units); k_whole); intro  D' h' tk' F' N' l1 ; (try k_lt l1); (try dsimp only); (try k_sweep); (try k_fold))
  k_with "call ref" => (k_here; k_dflt (refine' d2i0 ?z_B ?z_F ?z_X ?z_N ?z_T ?z_hk ?z_C1 ?z_C2 ?z_e1 ?z_e2 ?z_e3 ?z_e4 ?z_d1 ?z_v1 ?z_d2 ?z_v2 ?z_g0 ?z_hd ?z_hu ?_; (case z_B => k_asm); (case z_F => k_asm); (case z_X => k_asm); (case z_N => k_asm); (case z_T => k_asm); (case z_hk => first | exact rfl | with_reducible assumption | assumption); (case z_C1 => kn_code); (case z_C2 => kn_code); (case z_e1 => (repeat (first | exact List.Mem.head _ | apply List.Mem.tail))); (case z_e2 => (repeat (first | exact List.Mem.head _ | apply List.Mem.tail))); (case z_e3 => (repeat (first | exact List.Mem.head _ | apply List.Mem.tail))); (case z_e4 => (repeat (first | exact List.Mem.head _ | apply List.Mem.tail))); (case z_d1 => k_asm); (case z_v1 => k_asm); (case z_d2 => k_asm); (case z_v2 => k_asm); (case z_g0 => (repeat (first | exact List.Mem.head _ | apply List.Mem.tail))); (case z_hd => cb_room); (case z_hu => cb_units); k_whole); intro t' h' tk' F' N'; (try dsimp only); (try k_sweep); (try k_fold))
  intro w mean mg mb dp un gd cn cs a ccd cl outer A₀ base h₀ L m s Q E c1 c2 oc1 oc2 vs1 vs2 tk1 tk2 news b tx tb B F X N T hk C1 C2 e1 e2 e3 e4 d1 v1 d2 v2 hd hu hb hret
  refine wpAny_call ?_
  k_dflt (refine' enterS [(37, tab2 c2), (c2, oc2), (30, tab1 c1), (c1, oc1)] B F X N (List.forall_mem_cons.mpr ⟨e1, List.forall_mem_cons.mpr ⟨e2, List.forall_mem_cons.mpr ⟨e3, List.forall_mem_cons.mpr ⟨e4, List.forall_mem_nil _⟩⟩⟩⟩) T ?kA ?kF ?kK ?k6 ?k7 ?k8 ?k9 ?kB ?_ ?c2 ?c3 ?c4 ?c5; (case kA => exact rfl); (case kF => exact rfl); (case kK => exact hk); (case k6 => k_is); (case k7 => k_is); (case k8 => k_room); (case k9 => exact BindsTo.of_eq rfl); (case c5 => decide); (case kB => exact locs rfl); (case c2 => exact rfl); (case c3 => exact rfl); (case c4 => exact rfl); k_whole)
  intro g L' h' FG F₁ N₁ B₁ X₁ T₁ l1 hst hbn
  (try k_lt l1)
  clear e1 e2 e3 e4
  dsimp only
  (try k_lift B₁)
  (try k_fold)
  have hb4 : ((Builtin.Int.intBits b : Nat) : Int) = 4 := by rcases hb with rfl | rfl <;> decide
  have hb0 : 0 < b := by omega
  have hb1 : b < 16 := by omega
  k_steps
  refine' hret _ _ _ _ _ _ _ _ ?zf ?zn ?zl ?zq0
  case zn =>
    refine' standAll N ?zA hst ?zB ?zC ?zD
    case zA => k_asm
    case zB => k_asm
    case zC => k_mem
    case zD => kcj_all
  case zf => assumption
  case zl => exact ltAll hbn (by assumption)
  case zq0 => exact ⟨by rw [Int.zero_ediv], by rw [Int.zero_emod]⟩
end
end
section
section
theorem dmp1 : ∀ {w : World} {mean : ExcName → Option Value} {mg mb : Str → Option Value} {dp un : Nat} {gd : Option (List Code)} {cn : Str} {cs : Scope} {a : Addr} {ccd : Value} {cl : List (Str × Addr)} {outer : List Env} {A₀ : Around} {base h₀ : Heap} {L : Addr} {m : Str → Option Value} {s : Shared} {Q E : Value → Shared → Prop} {c1 c2 : Addr} {oc1 oc2 : Obj} {vs1 vs2 : Array Value} {tk1 tk2 : Tok} {news : List (Addr × Obj)} {x b : Int} {tx tb : Tok},
      Below A₀ base outer h₀ →
      Fr h₀ L s.heap m →
      (hd.heap_39 w.params).In h₀ →
      News h₀ L s.heap (news) →
      Top topProg LL mean mg mb h₀ →
      cs.kind = .function →
      CodeHd base 41 37 →
      CodeHd base 34 30 →
      (37, tab2 c2) ∈ news →
      (c2, oc2) ∈ news →
      (30, tab1 c1) ∈ news →
      (c1, oc1) ∈ news →
      oc1.data = .fields vs1 →
      vs1[1]? = some (.str (Str.ofString "_int2digits.<locals>.inner") tk1) →
      oc2.data = .fields vs2 →
      vs2[1]? = some (.str (Str.ofString "_digits2int.<locals>.inner") tk2) →
      dp + 12 < recursionLimit →
      un + 140 < cLine →
      (1 ≤ x) →
      (x < 16) →
      (b = 10 ∨ b = 11) →
      (∀ (q r : Int) (t1 t2 : Tok) (c : Nat) D h' tk', Fr h₀ L h' m → News h₀ L h' ((D, pairO q r t1 t2 c) :: news) → (∀ p ∈ (news : List (Addr × Obj)), p.1 < D) → DivR x b q r → Q (.ref D) { s with heap := h', toks := tk' }) →
      wpAny (model PySem.Challenge.rw_gs0003_01.row.prog w) (ktrTop dp un gd cn cs L a ccd cl outer) (call (.ref 49) [.int x tx, .int b tb]) Q E s := by
  k_fill
  w_top off
  k_with_none
  k_with "enter" => (first | (refine' code_defL ?k1 ?k2 ?k3 ?k4 ?k5 ?kA ?kF ?kK ?k6 ?k7 ?k8 ?k9 ?kB ?_ ?c2 ?c3 ?c4 ?c5; (case kA => exact rfl); (case kF => exact rfl); (case kK => assumption); (case k1 => k_asm); (case k2 => k_asm); (case k3 => k_asm); (case k4 => k_asm); (case k5 => k_asm); (case k6 => k_is); (case k7 => k_is); (case k8 => k_room); (case k9 => exact BindsTo.of_eq rfl); (case c5 => decide); (case kB => exact locs rfl); (case c2 => exact rfl); (case c3 => exact rfl); (case c4 => exact rfl); k_whole; intro g' L' h' FG' F' N' B' X' T' l1; (try k_lt l1); (try dsimp only); (try k_lift B'); (try k_fold)) | (refine' code_defC ?k1 ?k2 ?k3 ?k4 ?k5 ?kA ?kF ?kK ?k6 ?k7 ?k8 ?k9 ?kB ?kD ?_ ?c2 ?c3 ?c4; (case kA => exact rfl); (case kF => exact rfl); (case kK => assumption); (case k1 => k_asm); (case k2 => k_asm); (case k3 => k_asm); (case k4 => k_asm); (case k5 => k_asm); (case k6 => k_is); (case k7 => k_is); (case k8 => k_room); (case k9 => exact BindsTo.of_eq rfl); (case kB => exact rfl); (case kD => decide +kernel); (case c2 => exact rfl); (case c3 => exact rfl); (case c4 => exact rfl); k_whole; intro g' L' h' tk' cells' FG' F' N' Y' B' X' T' l1; (try k_lt l1); k_cells Y'; (try simp only [List.cons_append, List.nil_append] at N'); (try dsimp only); (try k_lift B'); (try k_fold)))
  k_with "call builtin:divmod" => (k_here; k_dflt (refine' divmod_L ?k1 ?k2 ?k3 ?k4 ?_; (case k1 => k_asm); (case k2 => k_asm); (case k3 => omega); (case k4 => omega); k_whole); intro D' h' F' N' l1; (try k_lt l1); (try k_sweep))
  k_with "call builtin:int.bit_length" => (k_here; (rename (((Builtin.Int.intBits _ : Nat) : Int) = (4 : Int)) => hb9'); (refine call_int_bit_length ?_); rw [hb9'])
  k_with "newTuple" => (k_here; k_dflt (refine' newTuple_L ?F ?N ?_ ?z; (case F => k_asm); (case N => k_asm); (case z => size_fits)); intro D' h' F' N' l1 l2; (try k_lt l1); (try k_sweep))
  k_with "call ref" => (k_here; k_dflt (refine' div_S ?z_B ?z_F ?z_X ?z_N ?z_T ?z_hk ?z_hd ?z_hu ?z_hx0 ?z_hx1 ?z_hb0 ?z_hb1 ?z_hn0 ?z_hn1 ?_; (case z_B => k_asm); (case z_F => k_asm); (case z_X => k_asm); (case z_N => k_asm); (case z_T => k_asm); (case z_hk => first | exact rfl | with_reducible assumption | assumption); (case z_hd => cb_room); (case z_hu => cb_units); (case z_hx0 => ((try simp only [Int.reduceToNat, Int.reducePow]); omega)); (case z_hx1 => ((try simp only [Int.reduceToNat, Int.reducePow]); omega)); (case z_hb0 => omega); (case z_hb1 => omega); (case z_hn0 => omega); (case z_hn1 => omega); k_whole); intro q' r' t1' t2' c' D' h' tk' F' N' l1 f0' f1' f2' f3' f4'; (try k_lt l1); (try dsimp only); (try k_sweep); (try k_fold))
  k_with "call ref" => (k_here; k_dflt (refine' i2d1 ?z_B ?z_F ?z_X ?z_N ?z_T ?z_hk ?z_C1 ?z_C2 ?z_e1 ?z_e2 ?z_e3 ?z_e4 ?z_d1 ?z_v1 ?z_d2 ?z_v2 ?z_hd ?z_hu ?z_hx0 ?z_hx1 ?_; (case z_B => k_asm); (case z_F => k_asm); (case z_X => k_asm); (case z_N => k_asm); (case z_T => k_asm); (case z_hk => first | exact rfl | with_reducible assumption | assumption); (case z_C1 => kn_code); (case z_C2 => kn_code); (case z_e1 => (repeat (first | exact List.Mem.head _ | apply List.Mem.tail))); (case z_e2 => (repeat (first | exact List.Mem.head _ | apply List.Mem.tail))); (case z_e3 => (repeat (first | exact List.Mem.head _ | apply List.Mem.tail))); (case z_e4 => (repeat (first | exact List.Mem.head _ | apply List.Mem.tail))); (case z_d1 => k_asm); (case z_v1 => k_asm); (case z_d2 => k_asm); (case z_v2 => k_asm); (case z_hd => cb_room); (case z_hu => cb_units); (case z_hx0 => omega); (case z_hx1 => omega); k_whole); intro d0' t0' D' h' tk' F' N' l1 f0' f1' f2'; (try k_lt l1); (try dsimp only); (try k_sweep); (try k_fold))
  k_with "call ref" => (k_here; k_dflt (refine' d2i1 ?z_B ?z_F ?z_X ?z_N ?z_T ?z_hk ?z_C1 ?z_C2 ?z_e1 ?z_e2 ?z_e3 ?z_e4 ?z_d1 ?z_v1 ?z_d2 ?z_v2 ?z_g0 ?z_hd ?z_hu ?z_h0a ?z_h0b ?_; (case z_B => k_asm); (case z_F => k_asm); (case z_X => k_asm); (case z_N => k_asm); (case z_T => k_asm); (case z_hk => first | exact rfl | with_reducible assumption | assumption); (case z_C1 => kn_code); (case z_C2 => kn_code); (case z_e1 => (repeat (first | exact List.Mem.head _ | apply List.Mem.tail))); (case z_e2 => (repeat (first | exact List.Mem.head _ | apply List.Mem.tail))); (case z_e3 => (repeat (first | exact List.Mem.head _ | apply List.Mem.tail))); (case z_e4 => (repeat (first | exact List.Mem.head _ | apply List.Mem.tail))); (case z_d1 => k_asm); (case z_v1 => k_asm); (case z_d2 => k_asm); (case z_v2 => k_asm); (case z_g0 => (repeat (first | exact List.Mem.head _ | apply List.Mem.tail))); (case z_hd => cb_room); (case z_hu => cb_units); (case z_h0a => first | omega | ((try simp only [Int.reduceToNat, Int.reducePow] at *); omega)); (case z_h0b => first | omega | ((try simp only [Int.reduceToNat, Int.reducePow] at *); omega)); k_whole); intro t' h' tk' F' N'; (try dsimp only); (try k_sweep); (try k_fold))
  intro w mean mg mb dp un gd cn cs a ccd cl outer A₀ base h₀ L m s Q E c1 c2 oc1 oc2 vs1 vs2 tk1 tk2 news x b tx tb B F X N T hk C1 C2 e1 e2 e3 e4 d1 v1 d2 v2 hd hu hx0 hx1 hb hret
  refine wpAny_call ?_
  k_dflt (refine' enterS [(37, tab2 c2), (c2, oc2), (30, tab1 c1), (c1, oc1)] B F X N (List.forall_mem_cons.mpr ⟨e1, List.forall_mem_cons.mpr ⟨e2, List.forall_mem_cons.mpr ⟨e3, List.forall_mem_cons.mpr ⟨e4, List.forall_mem_nil _⟩⟩⟩⟩) T ?kA ?kF ?kK ?k6 ?k7 ?k8 ?k9 ?kB ?_ ?c2 ?c3 ?c4 ?c5; (case kA => exact rfl); (case kF => exact rfl); (case kK => exact hk); (case k6 => k_is); (case k7 => k_is); (case k8 => k_room); (case k9 => exact BindsTo.of_eq rfl); (case c5 => decide); (case kB => exact locs rfl); (case c2 => exact rfl); (case c3 => exact rfl); (case c4 => exact rfl); k_whole)
  intro g L' h' FG F₁ N₁ B₁ X₁ T₁ l1 hst hbn
  (try k_lt l1)
  clear e1 e2 e3 e4
  dsimp only
  (try k_lift B₁)
  (try k_fold)
  have hb4 : ((Builtin.Int.intBits b : Nat) : Int) = 4 := by rcases hb with rfl | rfl <;> decide
  have hb0 : 0 < b := by omega
  have hb1 : b < 16 := by omega
  k_steps
  refine' hret _ _ _ _ _ _ _ _ ?zf ?zn ?zl ?zq0
  case zn =>
    refine' standAll N ?zA hst ?zB ?zC ?zD
    case zA => k_asm
    case zB => k_asm
    case zC => k_mem
    case zD => kcj_all
  case zf => assumption
  case zl => exact ltAll hbn (by assumption)
  case zq0 => exact divs1 hb (by with_reducible assumption) (by with_reducible assumption) 
end
end
section
section
theorem dmp2 : ∀ {w : World} {mean : ExcName → Option Value} {mg mb : Str → Option Value} {dp un : Nat} {gd : Option (List Code)} {cn : Str} {cs : Scope} {a : Addr} {ccd : Value} {cl : List (Str × Addr)} {outer : List Env} {A₀ : Around} {base h₀ : Heap} {L : Addr} {m : Str → Option Value} {s : Shared} {Q E : Value → Shared → Prop} {c1 c2 : Addr} {oc1 oc2 : Obj} {vs1 vs2 : Array Value} {tk1 tk2 : Tok} {news : List (Addr × Obj)} {x b : Int} {tx tb : Tok},
      Below A₀ base outer h₀ →
      Fr h₀ L s.heap m →
      (hd.heap_39 w.params).In h₀ →
      News h₀ L s.heap (news) →
      Top topProg LL mean mg mb h₀ →
      cs.kind = .function →
      CodeHd base 41 37 →
      CodeHd base 34 30 →
      (37, tab2 c2) ∈ news →
      (c2, oc2) ∈ news →
      (30, tab1 c1) ∈ news →
      (c1, oc1) ∈ news →
      oc1.data = .fields vs1 →
      vs1[1]? = some (.str (Str.ofString "_int2digits.<locals>.inner") tk1) →
      oc2.data = .fields vs2 →
      vs2[1]? = some (.str (Str.ofString "_digits2int.<locals>.inner") tk2) →
      dp + 12 < recursionLimit →
      un + 140 < cLine →
      (16 ≤ x) →
      (x < 256) →
      (b = 10 ∨ b = 11) →
      (∀ (q r : Int) (t1 t2 : Tok) (c : Nat) D h' tk', Fr h₀ L h' m → News h₀ L h' ((D, pairO q r t1 t2 c) :: news) → (∀ p ∈ (news : List (Addr × Obj)), p.1 < D) → DivR x b q r → Q (.ref D) { s with heap := h', toks := tk' }) →
      wpAny (model PySem.Challenge.rw_gs0003_01.row.prog w) (ktrTop dp un gd cn cs L a ccd cl outer) (call (.ref 49) [.int x tx, .int b tb]) Q E s := by
  k_fill
  w_top off
  k_with_none
  k_with "enter" => (first | (refine' code_defL ?k1 ?k2 ?k3 ?k4 ?k5 ?kA ?kF ?kK ?k6 ?k7 ?k8 ?k9 ?kB ?_ ?c2 ?c3 ?c4 ?c5; (case kA => exact rfl); (case kF => exact rfl); (case kK => assumption); (case k1 => k_asm); (case k2 => k_asm); (case k3 => k_asm); (case k4 => k_asm); (case k5 => k_asm); (case k6 => k_is); (case k7 => k_is); (case k8 => k_room); (case k9 => exact BindsTo.of_eq rfl); (case c5 => decide); (case kB => exact locs rfl); (case c2 => exact rfl); (case c3 => exact rfl); (case c4 => exact rfl); k_whole; intro g' L' h' FG' F' N' B' X' T' l1; (try k_lt l1); (try dsimp only); (try k_lift B'); (try k_fold)) | (refine' code_defC ?k1 ?k2 ?k3 ?k4 ?k5 ?kA ?kF ?kK ?k6 ?k7 ?k8 ?k9 ?kB ?kD ?_ ?c2 ?c3 ?c4; (case kA => exact rfl); (case kF => exact rfl); (case kK => assumption); (case k1 => k_asm); (case k2 => k_asm); (case k3 => k_asm); (case k4 => k_asm); (case k5 => k_asm); (case k6 => k_is); (case k7 => k_is); (case k8 => k_room); (case k9 => exact BindsTo.of_eq rfl); (case kB => exact rfl); (case kD => decide +kernel); (case c2 => exact rfl); (case c3 => exact rfl); (case c4 => exact rfl); k_whole; intro g' L' h' tk' cells' FG' F' N' Y' B' X' T' l1; (try k_lt l1); k_cells Y'; (try simp only [List.cons_append, List.nil_append] at N'); (try dsimp only); (try k_lift B'); (try k_fold)))
  k_with "call builtin:divmod" => (k_here; k_dflt (refine' divmod_L ?k1 ?k2 ?k3 ?k4 ?_; (case k1 => k_asm); (case k2 => k_asm); (case k3 => omega); (case k4 => omega); k_whole); intro D' h' F' N' l1; (try k_lt l1); (try k_sweep))
  k_with "call builtin:int.bit_length" => (k_here; (rename (((Builtin.Int.intBits _ : Nat) : Int) = (4 : Int)) => hb9'); (refine call_int_bit_length ?_); rw [hb9'])
  k_with "newTuple" => (k_here; k_dflt (refine' newTuple_L ?F ?N ?_ ?z; (case F => k_asm); (case N => k_asm); (case z => size_fits)); intro D' h' F' N' l1 l2; (try k_lt l1); (try k_sweep))
  k_with "call ref" => (k_here; k_dflt (refine' div_S ?z_B ?z_F ?z_X ?z_N ?z_T ?z_hk ?z_hd ?z_hu ?z_hx0 ?z_hx1 ?z_hb0 ?z_hb1 ?z_hn0 ?z_hn1 ?_; (case z_B => k_asm); (case z_F => k_asm); (case z_X => k_asm); (case z_N => k_asm); (case z_T => k_asm); (case z_hk => first | exact rfl | with_reducible assumption | assumption); (case z_hd => cb_room); (case z_hu => cb_units); (case z_hx0 => ((try simp only [Int.reduceToNat, Int.reducePow]); omega)); (case z_hx1 => ((try simp only [Int.reduceToNat, Int.reducePow]); omega)); (case z_hb0 => omega); (case z_hb1 => omega); (case z_hn0 => omega); (case z_hn1 => omega); k_whole); intro q' r' t1' t2' c' D' h' tk' F' N' l1 f0' f1' f2' f3' f4'; (try k_lt l1); (try dsimp only); (try k_sweep); (try k_fold))
  k_with "call ref" => (k_here; k_dflt (refine' i2d2 ?z_B ?z_F ?z_X ?z_N ?z_T ?z_hk ?z_C1 ?z_C2 ?z_e1 ?z_e2 ?z_e3 ?z_e4 ?z_d1 ?z_v1 ?z_d2 ?z_v2 ?z_hd ?z_hu ?z_hx0 ?z_hx1 ?_; (case z_B => k_asm); (case z_F => k_asm); (case z_X => k_asm); (case z_N => k_asm); (case z_T => k_asm); (case z_hk => first | exact rfl | with_reducible assumption | assumption); (case z_C1 => kn_code); (case z_C2 => kn_code); (case z_e1 => (repeat (first | exact List.Mem.head _ | apply List.Mem.tail))); (case z_e2 => (repeat (first | exact List.Mem.head _ | apply List.Mem.tail))); (case z_e3 => (repeat (first | exact List.Mem.head _ | apply List.Mem.tail))); (case z_e4 => (repeat (first | exact List.Mem.head _ | apply List.Mem.tail))); (case z_d1 => k_asm); (case z_v1 => k_asm); (case z_d2 => k_asm); (case z_v2 => k_asm); (case z_hd => cb_room); (case z_hu => cb_units); (case z_hx0 => omega); (case z_hx1 => omega); k_whole); intro d0' d1' t0' t1' D' h' tk' F' N' l1 f0' f1' f2' f3' f4'; (try k_lt l1); (try dsimp only); (try k_sweep); (try k_fold))
  k_with "call ref" => (k_here; k_dflt (refine' d2i2 ?z_B ?z_F ?z_X ?z_N ?z_T ?z_hk ?z_C1 ?z_C2 ?z_e1 ?z_e2 ?z_e3 ?z_e4 ?z_d1 ?z_v1 ?z_d2 ?z_v2 ?z_g0 ?z_hd ?z_hu ?z_h0a ?z_h0b ?z_h1a ?z_h1b ?_; (case z_B => k_asm); (case z_F => k_asm); (case z_X => k_asm); (case z_N => k_asm); (case z_T => k_asm); (case z_hk => first | exact rfl | with_reducible assumption | assumption); (case z_C1 => kn_code); (case z_C2 => kn_code); (case z_e1 => (repeat (first | exact List.Mem.head _ | apply List.Mem.tail))); (case z_e2 => (repeat (first | exact List.Mem.head _ | apply List.Mem.tail))); (case z_e3 => (repeat (first | exact List.Mem.head _ | apply List.Mem.tail))); (case z_e4 => (repeat (first | exact List.Mem.head _ | apply List.Mem.tail))); (case z_d1 => k_asm); (case z_v1 => k_asm); (case z_d2 => k_asm); (case z_v2 => k_asm); (case z_g0 => (repeat (first | exact List.Mem.head _ | apply List.Mem.tail))); (case z_hd => cb_room); (case z_hu => cb_units); (case z_h0a => first | omega | ((try simp only [Int.reduceToNat, Int.reducePow] at *); omega)); (case z_h0b => first | omega | ((try simp only [Int.reduceToNat, Int.reducePow] at *); omega)); (case z_h1a => first | omega | ((try simp only [Int.reduceToNat, Int.reducePow] at *); omega)); (case z_h1b => first | omega | ((try simp only [Int.reduceToNat, Int.reducePow] at *); omega)); k_whole); intro t' h' tk' F' N'; (try dsimp only); (try k_sweep); (try k_fold))
  intro w mean mg mb dp un gd cn cs a ccd cl outer A₀ base h₀ L m s Q E c1 c2 oc1 oc2 vs1 vs2 tk1 tk2 news x b tx tb B F X N T hk C1 C2 e1 e2 e3 e4 d1 v1 d2 v2 hd hu hx0 hx1 hb hret
  refine wpAny_call ?_
  k_dflt (refine' enterS [(37, tab2 c2), (c2, oc2), (30, tab1 c1), (c1, oc1)] B F X N (List.forall_mem_cons.mpr ⟨e1, List.forall_mem_cons.mpr ⟨e2, List.forall_mem_cons.mpr ⟨e3, List.forall_mem_cons.mpr ⟨e4, List.forall_mem_nil _⟩⟩⟩⟩) T ?kA ?kF ?kK ?k6 ?k7 ?k8 ?k9 ?kB ?_ ?c2 ?c3 ?c4 ?c5; (case kA => exact rfl); (case kF => exact rfl); (case kK => exact hk); (case k6 => k_is); (case k7 => k_is); (case k8 => k_room); (case k9 => exact BindsTo.of_eq rfl); (case c5 => decide); (case kB => exact locs rfl); (case c2 => exact rfl); (case c3 => exact rfl); (case c4 => exact rfl); k_whole)
  intro g L' h' FG F₁ N₁ B₁ X₁ T₁ l1 hst hbn
  (try k_lt l1)
  clear e1 e2 e3 e4
  dsimp only
  (try k_lift B₁)
  (try k_fold)
  have hb4 : ((Builtin.Int.intBits b : Nat) : Int) = 4 := by rcases hb with rfl | rfl <;> decide
  have hb0 : 0 < b := by omega
  have hb1 : b < 16 := by omega
  k_steps
  refine' hret _ _ _ _ _ _ _ _ ?zf ?zn ?zl ?zq0
  case zn =>
    refine' standAll N ?zA hst ?zB ?zC ?zD
    case zA => k_asm
    case zB => k_asm
    case zC => k_mem
    case zD => kcj_all
  case zf => assumption
  case zl => exact ltAll hbn (by assumption)
  case zq0 => exact divs2 hb (by with_reducible assumption) (by with_reducible assumption) (by with_reducible assumption) 
end
end
section
section
theorem dmp3 : ∀ {w : World} {mean : ExcName → Option Value} {mg mb : Str → Option Value} {dp un : Nat} {gd : Option (List Code)} {cn : Str} {cs : Scope} {a : Addr} {ccd : Value} {cl : List (Str × Addr)} {outer : List Env} {A₀ : Around} {base h₀ : Heap} {L : Addr} {m : Str → Option Value} {s : Shared} {Q E : Value → Shared → Prop} {c1 c2 : Addr} {oc1 oc2 : Obj} {vs1 vs2 : Array Value} {tk1 tk2 : Tok} {news : List (Addr × Obj)} {x b : Int} {tx tb : Tok},
      Below A₀ base outer h₀ →
      Fr h₀ L s.heap m →
      (hd.heap_39 w.params).In h₀ →
      News h₀ L s.heap (news) →
      Top topProg LL mean mg mb h₀ →
      cs.kind = .function →
      CodeHd base 41 37 →
      CodeHd base 34 30 →
      (37, tab2 c2) ∈ news →
      (c2, oc2) ∈ news →
      (30, tab1 c1) ∈ news →
      (c1, oc1) ∈ news →
      oc1.data = .fields vs1 →
      vs1[1]? = some (.str (Str.ofString "_int2digits.<locals>.inner") tk1) →
      oc2.data = .fields vs2 →
      vs2[1]? = some (.str (Str.ofString "_digits2int.<locals>.inner") tk2) →
      dp + 12 < recursionLimit →
      un + 140 < cLine →
      (256 ≤ x) →
      (x < 4096) →
      (b = 10 ∨ b = 11) →
      (∀ (q r : Int) (t1 t2 : Tok) (c : Nat) D h' tk', Fr h₀ L h' m → News h₀ L h' ((D, pairO q r t1 t2 c) :: news) → (∀ p ∈ (news : List (Addr × Obj)), p.1 < D) → DivR x b q r → Q (.ref D) { s with heap := h', toks := tk' }) →
      wpAny (model PySem.Challenge.rw_gs0003_01.row.prog w) (ktrTop dp un gd cn cs L a ccd cl outer) (call (.ref 49) [.int x tx, .int b tb]) Q E s := by
  k_fill
  w_top off
  k_with_none
  k_with "enter" => (first | (refine' code_defL ?k1 ?k2 ?k3 ?k4 ?k5 ?kA ?kF ?kK ?k6 ?k7 ?k8 ?k9 ?kB ?_ ?c2 ?c3 ?c4 ?c5; (case kA => exact rfl); (case kF => exact rfl); (case kK => assumption); (case k1 => k_asm); (case k2 => k_asm); (case k3 => k_asm); (case k4 => k_asm); (case k5 => k_asm); (case k6 => k_is); (case k7 => k_is); (case k8 => k_room); (case k9 => exact BindsTo.of_eq rfl); (case c5 => decide); (case kB => exact locs rfl); (case c2 => exact rfl); (case c3 => exact rfl); (case c4 => exact rfl); k_whole; intro g' L' h' FG' F' N' B' X' T' l1; (try k_lt l1); (try dsimp only); (try k_lift B'); (try k_fold)) | (refine' code_defC ?k1 ?k2 ?k3 ?k4 ?k5 ?kA ?kF ?kK ?k6 ?k7 ?k8 ?k9 ?kB ?kD ?_ ?c2 ?c3 ?c4; (case kA => exact rfl); (case kF => exact rfl); (case kK => assumption); (case k1 => k_asm); (case k2 => k_asm); (case k3 => k_asm); (case k4 => k_asm); (case k5 => k_asm); (case k6 => k_is); (case k7 => k_is); (case k8 => k_room); (case k9 => exact BindsTo.of_eq rfl); (case kB => exact rfl); (case kD => decide +kernel); (case c2 => exact rfl); (case c3 => exact rfl); (case c4 => exact rfl); k_whole; intro g' L' h' tk' cells' FG' F' N' Y' B' X' T' l1; (try k_lt l1); k_cells Y'; (try simp only [List.cons_append, List.nil_append] at N'); (try dsimp only); (try k_lift B'); (try k_fold)))
  k_with "call builtin:divmod" => (k_here; k_dflt (refine' divmod_L ?k1 ?k2 ?k3 ?k4 ?_; (case k1 => k_asm); (case k2 => k_asm); (case k3 => omega); (case k4 => omega); k_whole); intro D' h' F' N' l1; (try k_lt l1); (try k_sweep))
  k_with "call builtin:int.bit_length" => (k_here; (rename (((Builtin.Int.intBits _ : Nat) : Int) = (4 : Int)) => hb9'); (refine call_int_bit_length ?_); rw [hb9'])
  k_with "newTuple" => (k_here; k_dflt (refine' newTuple_L ?F ?N ?_ ?z; (case F => k_asm); (case N => k_asm); (case z => size_fits)); intro D' h' F' N' l1 l2; (try k_lt l1); (try k_sweep))
  k_with "call ref" => (k_here; k_dflt (refine' div_S ?z_B ?z_F ?z_X ?z_N ?z_T ?z_hk ?z_hd ?z_hu ?z_hx0 ?z_hx1 ?z_hb0 ?z_hb1 ?z_hn0 ?z_hn1 ?_; (case z_B => k_asm); (case z_F => k_asm); (case z_X => k_asm); (case z_N => k_asm); (case z_T => k_asm); (case z_hk => first | exact rfl | with_reducible assumption | assumption); (case z_hd => cb_room); (case z_hu => cb_units); (case z_hx0 => ((try simp only [Int.reduceToNat, Int.reducePow]); omega)); (case z_hx1 => ((try simp only [Int.reduceToNat, Int.reducePow]); omega)); (case z_hb0 => omega); (case z_hb1 => omega); (case z_hn0 => omega); (case z_hn1 => omega); k_whole); intro q' r' t1' t2' c' D' h' tk' F' N' l1 f0' f1' f2' f3' f4'; (try k_lt l1); (try dsimp only); (try k_sweep); (try k_fold))
  k_with "call ref" => (k_here; k_dflt (refine' i2d3 ?z_B ?z_F ?z_X ?z_N ?z_T ?z_hk ?z_C1 ?z_C2 ?z_e1 ?z_e2 ?z_e3 ?z_e4 ?z_d1 ?z_v1 ?z_d2 ?z_v2 ?z_hd ?z_hu ?z_hx0 ?z_hx1 ?_; (case z_B => k_asm); (case z_F => k_asm); (case z_X => k_asm); (case z_N => k_asm); (case z_T => k_asm); (case z_hk => first | exact rfl | with_reducible assumption | assumption); (case z_C1 => kn_code); (case z_C2 => kn_code); (case z_e1 => (repeat (first | exact List.Mem.head _ | apply List.Mem.tail))); (case z_e2 => (repeat (first | exact List.Mem.head _ | apply List.Mem.tail))); (case z_e3 => (repeat (first | exact List.Mem.head _ | apply List.Mem.tail))); (case z_e4 => (repeat (first | exact List.Mem.head _ | apply List.Mem.tail))); (case z_d1 => k_asm); (case z_v1 => k_asm); (case z_d2 => k_asm); (case z_v2 => k_asm); (case z_hd => cb_room); (case z_hu => cb_units); (case z_hx0 => omega); (case z_hx1 => omega); k_whole); intro d0' d1' d2' t0' t1' t2' D' h' tk' F' N' l1 f0' f1' f2' f3' f4' f5' f6'; (try k_lt l1); (try dsimp only); (try k_sweep); (try k_fold))
  k_with "call ref" => (k_here; k_dflt (refine' d2i3 ?z_B ?z_F ?z_X ?z_N ?z_T ?z_hk ?z_C1 ?z_C2 ?z_e1 ?z_e2 ?z_e3 ?z_e4 ?z_d1 ?z_v1 ?z_d2 ?z_v2 ?z_g0 ?z_hd ?z_hu ?z_h0a ?z_h0b ?z_h1a ?z_h1b ?z_h2a ?z_h2b ?_; (case z_B => k_asm); (case z_F => k_asm); (case z_X => k_asm); (case z_N => k_asm); (case z_T => k_asm); (case z_hk => first | exact rfl | with_reducible assumption | assumption); (case z_C1 => kn_code); (case z_C2 => kn_code); (case z_e1 => (repeat (first | exact List.Mem.head _ | apply List.Mem.tail))); (case z_e2 => (repeat (first | exact List.Mem.head _ | apply List.Mem.tail))); (case z_e3 => (repeat (first | exact List.Mem.head _ | apply List.Mem.tail))); (case z_e4 => (repeat (first | exact List.Mem.head _ | apply List.Mem.tail))); (case z_d1 => k_asm); (case z_v1 => k_asm); (case z_d2 => k_asm); (case z_v2 => k_asm); (case z_g0 => (repeat (first | exact List.Mem.head _ | apply List.Mem.tail))); (case z_hd => cb_room); (case z_hu => cb_units); (case z_h0a => first | omega | ((try simp only [Int.reduceToNat, Int.reducePow] at *); omega)); (case z_h0b => first | omega | ((try simp only [Int.reduceToNat, Int.reducePow] at *); omega)); (case z_h1a => first | omega | ((try simp only [Int.reduceToNat, Int.reducePow] at *); omega)); (case z_h1b => first | omega | ((try simp only [Int.reduceToNat, Int.reducePow] at *); omega)); (case z_h2a => first | omega | ((try simp only [Int.reduceToNat, Int.reducePow] at *); omega)); (case z_h2b => first | omega | ((try simp only [Int.reduceToNat, Int.reducePow] at *); omega)); k_whole); intro t' h' tk' F' N'; (try dsimp only); (try k_sweep); (try k_fold))
  intro w mean mg mb dp un gd cn cs a ccd cl outer A₀ base h₀ L m s Q E c1 c2 oc1 oc2 vs1 vs2 tk1 tk2 news x b tx tb B F X N T hk C1 C2 e1 e2 e3 e4 d1 v1 d2 v2 hd hu hx0 hx1 hb hret
  refine wpAny_call ?_
  k_dflt (refine' enterS [(37, tab2 c2), (c2, oc2), (30, tab1 c1), (c1, oc1)] B F X N (List.forall_mem_cons.mpr ⟨e1, List.forall_mem_cons.mpr ⟨e2, List.forall_mem_cons.mpr ⟨e3, List.forall_mem_cons.mpr ⟨e4, List.forall_mem_nil _⟩⟩⟩⟩) T ?kA ?kF ?kK ?k6 ?k7 ?k8 ?k9 ?kB ?_ ?c2 ?c3 ?c4 ?c5; (case kA => exact rfl); (case kF => exact rfl); (case kK => exact hk); (case k6 => k_is); (case k7 => k_is); (case k8 => k_room); (case k9 => exact BindsTo.of_eq rfl); (case c5 => decide); (case kB => exact locs rfl); (case c2 => exact rfl); (case c3 => exact rfl); (case c4 => exact rfl); k_whole)
  intro g L' h' FG F₁ N₁ B₁ X₁ T₁ l1 hst hbn
  (try k_lt l1)
  clear e1 e2 e3 e4
  dsimp only
  (try k_lift B₁)
  (try k_fold)
  have hb4 : ((Builtin.Int.intBits b : Nat) : Int) = 4 := by rcases hb with rfl | rfl <;> decide
  have hb0 : 0 < b := by omega
  have hb1 : b < 16 := by omega
  k_steps
  refine' hret _ _ _ _ _ _ _ _ ?zf ?zn ?zl ?zq0
  case zn =>
    refine' standAll N ?zA hst ?zB ?zC ?zD
    case zA => k_asm
    case zB => k_asm
    case zC => k_mem
    case zD => kcj_all
  case zf => assumption
  case zl => exact ltAll hbn (by assumption)
  case zq0 => exact divs3 hb (by with_reducible assumption) (by with_reducible assumption) (by with_reducible assumption) (by with_reducible assumption) 
end
end
section
section
theorem dmp : ∀ {w : World} {mean : ExcName → Option Value} {mg mb : Str → Option Value} {dp un : Nat} {gd : Option (List Code)} {cn : Str} {cs : Scope} {a : Addr} {ccd : Value} {cl : List (Str × Addr)} {outer : List Env} {A₀ : Around} {base h₀ : Heap} {L : Addr} {m : Str → Option Value} {s : Shared} {Q E : Value → Shared → Prop} {c1 c2 : Addr} {oc1 oc2 : Obj} {vs1 vs2 : Array Value} {tk1 tk2 : Tok} {news : List (Addr × Obj)} {x b : Int} {tx tb : Tok},
      Below A₀ base outer h₀ →
      Fr h₀ L s.heap m →
      (hd.heap_39 w.params).In h₀ →
      News h₀ L s.heap (news) →
      Top topProg LL mean mg mb h₀ →
      cs.kind = .function →
      CodeHd base 41 37 →
      CodeHd base 34 30 →
      (37, tab2 c2) ∈ news →
      (c2, oc2) ∈ news →
      (30, tab1 c1) ∈ news →
      (c1, oc1) ∈ news →
      oc1.data = .fields vs1 →
      vs1[1]? = some (.str (Str.ofString "_int2digits.<locals>.inner") tk1) →
      oc2.data = .fields vs2 →
      vs2[1]? = some (.str (Str.ofString "_digits2int.<locals>.inner") tk2) →
      dp + 12 < recursionLimit →
      un + 140 < cLine →
      (0 ≤ x) →
      (x < 4096) →
      (b = 10 ∨ b = 11) →
      (∀ (q r : Int) (t1 t2 : Tok) (c : Nat) D h' tk', Fr h₀ L h' m → News h₀ L h' ((D, pairO q r t1 t2 c) :: news) → (∀ p ∈ (news : List (Addr × Obj)), p.1 < D) → DivR x b q r → Q (.ref D) { s with heap := h', toks := tk' }) →
      wpAny (model PySem.Challenge.rw_gs0003_01.row.prog w) (ktrTop dp un gd cn cs L a ccd cl outer) (call (.ref 49) [.int x tx, .int b tb]) Q E s := by
  intro w mean mg mb dp un gd cn cs a ccd cl outer A₀ base h₀ L m s Q E c1 c2 oc1 oc2 vs1 vs2 tk1 tk2 news x b tx tb B F X N T hk C1 C2 e1 e2 e3 e4 d1 v1 d2 v2 hd hu hx0 hx1 hb hret
  rcases (by omega : x = 0 ∨ (1 ≤ x ∧ x < 16) ∨ (16 ≤ x ∧ x < 256) ∨ (256 ≤ x ∧ x < 4096)) with rfl | hx | hx | hx
  · exact dmp0 B F X N T hk C1 C2 e1 e2 e3 e4 d1 v1 d2 v2 hd hu hb hret
  · exact dmp1 B F X N T hk C1 C2 e1 e2 e3 e4 d1 v1 d2 v2 hd hu hx.1 hx.2 hb hret
  · exact dmp2 B F X N T hk C1 C2 e1 e2 e3 e4 d1 v1 d2 v2 hd hu hx.1 hx.2 hb hret
  · exact dmp3 B F X N T hk C1 C2 e1 e2 e3 e4 d1 v1 d2 v2 hd hu hx.1 hx.2 hb hret
end
end
section
section
theorem idmP_in : ∀ {w : World} {mean : ExcName → Option Value} {mg mb : Str → Option Value} {dp un : Nat} {gd : Option (List Code)} {cn : Str} {cs : Scope} {a : Addr} {ccd : Value} {cl : List (Str × Addr)} {outer : List Env} {A₀ : Around} {base h₀ : Heap} {L : Addr} {m : Str → Option Value} {s : Shared} {Q E : Value → Shared → Prop} {c1 c2 : Addr} {oc1 oc2 : Obj} {vs1 vs2 : Array Value} {tk1 tk2 : Tok} {news : List (Addr × Obj)} {x b : Int} {tx tb : Tok},
      Below A₀ base outer h₀ →
      Fr h₀ L s.heap m →
      (hd.heap_39 w.params).In h₀ →
      News h₀ L s.heap ((37, tab2 c2) :: (c2, oc2) :: (30, tab1 c1) :: (c1, oc1) :: news) →
      Top topProg LL mean mg mb h₀ →
      cs.kind = .function →
      CodeHd base 41 37 →
      CodeHd base 34 30 →
      oc1.data = .fields vs1 →
      vs1[1]? = some (.str (Str.ofString "_int2digits.<locals>.inner") tk1) →
      oc2.data = .fields vs2 →
      vs2[1]? = some (.str (Str.ofString "_digits2int.<locals>.inner") tk2) →
      dp + 14 < recursionLimit →
      un + 160 < cLine →
      (0 ≤ x) →
      (x < 4096) →
      (b = 10 ∨ b = 11) →
      (∀ (q r : Int) (t1 t2 : Tok) (c : Nat) D h' tk', Fr h₀ L h' m → News h₀ L h' ((D, pairO q r t1 t2 c) :: (37, tab2 c2) :: (c2, oc2) :: (30, tab1 c1) :: (c1, oc1) :: news) → (∀ p ∈ ((37, tab2 c2) :: (c2, oc2) :: (30, tab1 c1) :: (c1, oc1) :: news : List (Addr × Obj)), p.1 < D) → DivR x b q r → Q (.ref D) { s with heap := h', toks := tk' }) →
      wpAny (model PySem.Challenge.rw_gs0003_01.row.prog w) (ktrTop dp un gd cn cs L a ccd cl outer) (call (.ref 56) [.int x tx, .int b tb]) Q E s := by
  k_fill
  w_top off
  k_with_none
  k_with "enter" => (first | (refine' code_defL ?k1 ?k2 ?k3 ?k4 ?k5 ?kA ?kF ?kK ?k6 ?k7 ?k8 ?k9 ?kB ?_ ?c2 ?c3 ?c4 ?c5; (case kA => exact rfl); (case kF => exact rfl); (case kK => assumption); (case k1 => k_asm); (case k2 => k_asm); (case k3 => k_asm); (case k4 => k_asm); (case k5 => k_asm); (case k6 => k_is); (case k7 => k_is); (case k8 => k_room); (case k9 => exact BindsTo.of_eq rfl); (case c5 => decide); (case kB => exact locs rfl); (case c2 => exact rfl); (case c3 => exact rfl); (case c4 => exact rfl); k_whole; intro g' L' h' FG' F' N' B' X' T' l1; (try k_lt l1); (try dsimp only); (try k_lift B'); (try k_fold)) | (refine' code_defC ?k1 ?k2 ?k3 ?k4 ?k5 ?kA ?kF ?kK ?k6 ?k7 ?k8 ?k9 ?kB ?kD ?_ ?c2 ?c3 ?c4; (case kA => exact rfl); (case kF => exact rfl); (case kK => assumption); (case k1 => k_asm); (case k2 => k_asm); (case k3 => k_asm); (case k4 => k_asm); (case k5 => k_asm); (case k6 => k_is); (case k7 => k_is); (case k8 => k_room); (case k9 => exact BindsTo.of_eq rfl); (case kB => exact rfl); (case kD => decide +kernel); (case c2 => exact rfl); (case c3 => exact rfl); (case c4 => exact rfl); k_whole; intro g' L' h' tk' cells' FG' F' N' Y' B' X' T' l1; (try k_lt l1); k_cells Y'; (try simp only [List.cons_append, List.nil_append] at N'); (try dsimp only); (try k_lift B'); (try k_fold)))
  k_with "call builtin:divmod" => (k_here; k_dflt (refine' divmod_L ?k1 ?k2 ?k3 ?k4 ?_; (case k1 => k_asm); (case k2 => k_asm); (case k3 => omega); (case k4 => omega); k_whole); intro D' h' F' N' l1; (try k_lt l1); (try k_sweep))
  k_with "newTuple" => (k_here; k_dflt (refine' newTuple_L ?F ?N ?_ ?z; (case F => k_asm); (case N => k_asm); (case z => size_fits)); intro D' h' F' N' l1 l2; (try k_lt l1); (try k_sweep))
  k_with "call ref" => (k_here; k_dflt (refine' dmp ?z_B ?z_F ?z_X ?z_N ?z_T ?z_hk ?z_C1 ?z_C2 ?z_e1 ?z_e2 ?z_e3 ?z_e4 ?z_d1 ?z_v1 ?z_d2 ?z_v2 ?z_hd ?z_hu ?z_hx0 ?z_hx1 ?z_hb ?_; (case z_B => k_asm); (case z_F => k_asm); (case z_X => k_asm); (case z_N => k_asm); (case z_T => k_asm); (case z_hk => first | exact rfl | with_reducible assumption | assumption); (case z_C1 => kn_code); (case z_C2 => kn_code); (case z_e1 => (repeat (first | exact List.Mem.head _ | apply List.Mem.tail))); (case z_e2 => (repeat (first | exact List.Mem.head _ | apply List.Mem.tail))); (case z_e3 => (repeat (first | exact List.Mem.head _ | apply List.Mem.tail))); (case z_e4 => (repeat (first | exact List.Mem.head _ | apply List.Mem.tail))); (case z_d1 => k_asm); (case z_v1 => k_asm); (case z_d2 => k_asm); (case z_v2 => k_asm); (case z_hd => cb_room); (case z_hu => cb_units); (case z_hx0 => omega); (case z_hx1 => omega); (case z_hb => assumption); k_whole); intro q' r' t1' t2' c' D' h' tk' F' N' l1 f0'; (try k_lt l1); (try dsimp only); (try k_sweep); (try k_fold))
  intro w mean mg mb dp un gd cn cs a ccd cl outer A₀ base h₀ L m s Q E c1 c2 oc1 oc2 vs1 vs2 tk1 tk2 news x b tx tb B F X N T hk C1 C2 d1 v1 d2 v2 hd hu hx0 hx1 hb hret
  refine wpAny_call ?_
  k_dflt k_enter
  have hb0 : 0 < b := by omega
  have hb1 : b < 16 := by omega
  k_steps
  all_goals first
    | (exfalso; (try simp only [decide_eq_true_eq, beq_iff_eq, decide_eq_false_iff_not] at *); omega)
    | skip
  refine' hret _ _ _ _ _ _ _ _ ?zf ?zn ?zl ?zq0
  case zn =>
    refine' subR ?zA ?zB ?zC
    case zA => assumption
    case zB => k_mem
    case zC => (intro p hp; repeat (first | exact hp | apply List.mem_cons_of_mem))
  case zf => assumption
  case zl => first | assumption | (refine ltFrom ?_; first | assumption | (simp only [AllLt, *, and_self, and_true, true_and]; done))
  case zq0 => assumption
theorem idmP : ∀ {w : World} {mean : ExcName → Option Value} {mg mb : Str → Option Value} {dp un : Nat} {gd : Option (List Code)} {cn : Str} {cs : Scope} {a : Addr} {ccd : Value} {cl : List (Str × Addr)} {outer : List Env} {A₀ : Around} {base h₀ : Heap} {L : Addr} {m : Str → Option Value} {s : Shared} {Q E : Value → Shared → Prop} {c1 c2 : Addr} {oc1 oc2 : Obj} {vs1 vs2 : Array Value} {tk1 tk2 : Tok} {news : List (Addr × Obj)} {x b : Int} {tx tb : Tok},
      Below A₀ base outer h₀ →
      Fr h₀ L s.heap m →
      (hd.heap_39 w.params).In h₀ →
      News h₀ L s.heap (news) →
      Top topProg LL mean mg mb h₀ →
      cs.kind = .function →
      CodeHd base 41 37 →
      CodeHd base 34 30 →
      (37, tab2 c2) ∈ news →
      (c2, oc2) ∈ news →
      (30, tab1 c1) ∈ news →
      (c1, oc1) ∈ news →
      oc1.data = .fields vs1 →
      vs1[1]? = some (.str (Str.ofString "_int2digits.<locals>.inner") tk1) →
      oc2.data = .fields vs2 →
      vs2[1]? = some (.str (Str.ofString "_digits2int.<locals>.inner") tk2) →
      dp + 14 < recursionLimit →
      un + 160 < cLine →
      (0 ≤ x) →
      (x < 4096) →
      (b = 10 ∨ b = 11) →
      (∀ (q r : Int) (t1 t2 : Tok) (c : Nat) D h' tk', Fr h₀ L h' m → News h₀ L h' ((D, pairO q r t1 t2 c) :: news) → (∀ p ∈ (news : List (Addr × Obj)), p.1 < D) → DivR x b q r → Q (.ref D) { s with heap := h', toks := tk' }) →
      wpAny (model PySem.Challenge.rw_gs0003_01.row.prog w) (ktrTop dp un gd cn cs L a ccd cl outer) (call (.ref 56) [.int x tx, .int b tb]) Q E s := by
  intro w mean mg mb dp un gd cn cs a ccd cl outer A₀ base h₀ L m s Q E c1 c2 oc1 oc2 vs1 vs2 tk1 tk2 news x b tx tb B F X N T hk C1 C2 e1 e2 e3 e4 d1 v1 d2 v2 hd hu hx0 hx1 hb hret
  exact idmP_in B F X (upN (upN (upN (upN N e4) e3) e2) e1) T hk C1 C2 d1 v1 d2 v2 hd hu hx0 hx1 hb (fun q r t1 t2 c D h' tk' F' N' l' f0 => hret q r t1 t2 c D h' tk' F' (dropN1 4 N') (dropL 4 l') f0)
end
end
section
section
theorem idmN : ∀ {w : World} {mean : ExcName → Option Value} {mg mb : Str → Option Value} {dp un : Nat} {gd : Option (List Code)} {cn : Str} {cs : Scope} {a : Addr} {ccd : Value} {cl : List (Str × Addr)} {outer : List Env} {A₀ : Around} {base h₀ : Heap} {L : Addr} {m : Str → Option Value} {s : Shared} {Q E : Value → Shared → Prop} {c1 c2 : Addr} {oc1 oc2 : Obj} {vs1 vs2 : Array Value} {tk1 tk2 : Tok} {news : List (Addr × Obj)} {x b : Int} {tx tb : Tok},
      Below A₀ base outer h₀ →
      Fr h₀ L s.heap m →
      (hd.heap_39 w.params).In h₀ →
      News h₀ L s.heap (news) →
      Top topProg LL mean mg mb h₀ →
      cs.kind = .function →
      CodeHd base 41 37 →
      CodeHd base 34 30 →
      (37, tab2 c2) ∈ news →
      (c2, oc2) ∈ news →
      (30, tab1 c1) ∈ news →
      (c1, oc1) ∈ news →
      oc1.data = .fields vs1 →
      vs1[1]? = some (.str (Str.ofString "_int2digits.<locals>.inner") tk1) →
      oc2.data = .fields vs2 →
      vs2[1]? = some (.str (Str.ofString "_digits2int.<locals>.inner") tk2) →
      dp + 16 < recursionLimit →
      un + 180 < cLine →
      (-4000 < x) →
      (x < 0) →
      (b = 10 ∨ b = 11) →
      (∀ (q r : Int) (t1 t2 : Tok) (c : Nat) D h' tk', Fr h₀ L h' m → News h₀ L h' ((D, pairO q r t1 t2 c) :: news) → (∀ p ∈ (news : List (Addr × Obj)), p.1 < D) → DivR x b q r → Q (.ref D) { s with heap := h', toks := tk' }) →
      wpAny (model PySem.Challenge.rw_gs0003_01.row.prog w) (ktrTop dp un gd cn cs L a ccd cl outer) (call (.ref 56) [.int x tx, .int b tb]) Q E s := by
  k_fill
  w_top off
  k_with_none
  k_with "enter" => (first | (refine' code_defL ?k1 ?k2 ?k3 ?k4 ?k5 ?kA ?kF ?kK ?k6 ?k7 ?k8 ?k9 ?kB ?_ ?c2 ?c3 ?c4 ?c5; (case kA => exact rfl); (case kF => exact rfl); (case kK => assumption); (case k1 => k_asm); (case k2 => k_asm); (case k3 => k_asm); (case k4 => k_asm); (case k5 => k_asm); (case k6 => k_is); (case k7 => k_is); (case k8 => k_room); (case k9 => exact BindsTo.of_eq rfl); (case c5 => decide); (case kB => exact locs rfl); (case c2 => exact rfl); (case c3 => exact rfl); (case c4 => exact rfl); k_whole; intro g' L' h' FG' F' N' B' X' T' l1; (try k_lt l1); (try dsimp only); (try k_lift B'); (try k_fold)) | (refine' code_defC ?k1 ?k2 ?k3 ?k4 ?k5 ?kA ?kF ?kK ?k6 ?k7 ?k8 ?k9 ?kB ?kD ?_ ?c2 ?c3 ?c4; (case kA => exact rfl); (case kF => exact rfl); (case kK => assumption); (case k1 => k_asm); (case k2 => k_asm); (case k3 => k_asm); (case k4 => k_asm); (case k5 => k_asm); (case k6 => k_is); (case k7 => k_is); (case k8 => k_room); (case k9 => exact BindsTo.of_eq rfl); (case kB => exact rfl); (case kD => decide +kernel); (case c2 => exact rfl); (case c3 => exact rfl); (case c4 => exact rfl); k_whole; intro g' L' h' tk' cells' FG' F' N' Y' B' X' T' l1; (try k_lt l1); k_cells Y'; (try simp only [List.cons_append, List.nil_append] at N'); (try dsimp only); (try k_lift B'); (try k_fold)))
  k_with "call builtin:divmod" => (k_here; k_dflt (refine' divmod_L ?k1 ?k2 ?k3 ?k4 ?_; (case k1 => k_asm); (case k2 => k_asm); (case k3 => omega); (case k4 => omega); k_whole); intro D' h' F' N' l1; (try k_lt l1); (try k_sweep))
  k_with "newTuple" => (k_here; k_dflt (refine' newTuple_L ?F ?N ?_ ?z; (case F => k_asm); (case N => k_asm); (case z => size_fits)); intro D' h' F' N' l1 l2; (try k_lt l1); (try k_sweep))
  k_with "call ref" => (k_here; k_dflt (refine' idmP ?z_B ?z_F ?z_X ?z_N ?z_T ?z_hk ?z_C1 ?z_C2 ?z_e1 ?z_e2 ?z_e3 ?z_e4 ?z_d1 ?z_v1 ?z_d2 ?z_v2 ?z_hd ?z_hu ?z_hx0 ?z_hx1 ?z_hb ?_; (case z_B => k_asm); (case z_F => k_asm); (case z_X => k_asm); (case z_N => k_asm); (case z_T => k_asm); (case z_hk => first | exact rfl | with_reducible assumption | assumption); (case z_C1 => kn_code); (case z_C2 => kn_code); (case z_e1 => (repeat (first | exact List.Mem.head _ | apply List.Mem.tail))); (case z_e2 => (repeat (first | exact List.Mem.head _ | apply List.Mem.tail))); (case z_e3 => (repeat (first | exact List.Mem.head _ | apply List.Mem.tail))); (case z_e4 => (repeat (first | exact List.Mem.head _ | apply List.Mem.tail))); (case z_d1 => k_asm); (case z_v1 => k_asm); (case z_d2 => k_asm); (case z_v2 => k_asm); (case z_hd => cb_room); (case z_hu => cb_units); (case z_hx0 => ((try unfold Builtin.bitNot); omega)); (case z_hx1 => ((try unfold Builtin.bitNot); omega)); (case z_hb => assumption); k_whole); intro q' r' t1' t2' c' D' h' tk' F' N' l1 f0'; (try k_lt l1); (try dsimp only); (try k_sweep); (try k_fold))
  intro w mean mg mb dp un gd cn cs a ccd cl outer A₀ base h₀ L m s Q E c1 c2 oc1 oc2 vs1 vs2 tk1 tk2 news x b tx tb B F X N T hk C1 C2 e1 e2 e3 e4 d1 v1 d2 v2 hd hu hx0 hx1 hb hret
  refine wpAny_call ?_
  k_dflt (refine' enterS [(37, tab2 c2), (c2, oc2), (30, tab1 c1), (c1, oc1)] B F X N (List.forall_mem_cons.mpr ⟨e1, List.forall_mem_cons.mpr ⟨e2, List.forall_mem_cons.mpr ⟨e3, List.forall_mem_cons.mpr ⟨e4, List.forall_mem_nil _⟩⟩⟩⟩) T ?kA ?kF ?kK ?k6 ?k7 ?k8 ?k9 ?kB ?_ ?c2 ?c3 ?c4 ?c5; (case kA => exact rfl); (case kF => exact rfl); (case kK => exact hk); (case k6 => k_is); (case k7 => k_is); (case k8 => k_room); (case k9 => exact BindsTo.of_eq rfl); (case c5 => decide); (case kB => exact locs rfl); (case c2 => exact rfl); (case c3 => exact rfl); (case c4 => exact rfl); k_whole)
  intro g L' h' FG F₁ N₁ B₁ X₁ T₁ l1 hst hbn
  (try k_lt l1)
  clear e1 e2 e3 e4
  dsimp only
  (try k_lift B₁)
  (try k_fold)
  have hb0 : 0 < b := by omega
  have hb1 : b < 16 := by omega
  k_steps
  all_goals first
    | (exfalso; (try simp only [decide_eq_true_eq, beq_iff_eq, decide_eq_false_iff_not] at *); omega)
    | skip
  refine' hret _ _ _ _ _ _ _ _ ?zf ?zn ?zl ?zq0
  case zn =>
    refine' standAll N ?zA hst ?zB ?zC ?zD
    case zA => k_asm
    case zB => k_asm
    case zC => k_mem
    case zD => kcj_all
  case zf => assumption
  case zl => exact ltAll hbn (by assumption)
  case zq0 => (simp only [DivR, Builtin.bitNot] at *; rcases hb with rfl | rfl <;> omega)
end
end
section
section
theorem exch_in : ∀ {w : World} {mean : ExcName → Option Value} {mg mb : Str → Option Value} {dp un : Nat} {gd : Option (List Code)} {cn : Str} {cs : Scope} {a : Addr} {ccd : Value} {cl : List (Str × Addr)} {outer : List Env} {A₀ : Around} {base h₀ : Heap} {L : Addr} {m : Str → Option Value} {s : Shared} {Q E : Value → Shared → Prop} {news : List (Addr × Obj)} {l : Addr} {vs : List Value} {c : Nat} {ns : List Int} {i j : Int} {ti tj : Tok},
      Below A₀ base outer h₀ →
      Fr h₀ L s.heap m →
      (hd.heap_39 w.params).In h₀ →
      News h₀ L s.heap ((l, W.listOf vs.toArray c) :: news) →
      Top topProg LL mean mg mb h₀ →
      cs.kind = .function →
      dp + 4 < recursionLimit →
      un + 60 < cLine →
      (IntsAre vs ns) →
      (ns.length ≤ 12) →
      (0 ≤ i) →
      (i < (ns.length : Int)) →
      (0 ≤ j) →
      (j < (ns.length : Int)) →
      (∀ (vs' : List Value) (c' : Nat) D h' tk', Fr h₀ L h' m → News h₀ L h' ((D, W.listOf vs'.toArray c') :: (l, W.listOf vs.toArray c) :: news) → (∀ p ∈ ((l, W.listOf vs.toArray c) :: news : List (Addr × Obj)), p.1 < D) → IntsAre vs' (swapped ns i.toNat j.toNat) → Q (.ref D) { s with heap := h', toks := tk' }) →
      wpAny (model PySem.Challenge.rw_gs0003_01.row.prog w) (ktrTop dp un gd cn cs L a ccd cl outer) (call (.ref 82) [.ref l, .int i ti, .int j tj]) Q E s := by
  k_fill
  w_top off
  k_with_none
  k_with "enter" => (first | (refine' code_defL ?k1 ?k2 ?k3 ?k4 ?k5 ?kA ?kF ?kK ?k6 ?k7 ?k8 ?k9 ?kB ?_ ?c2 ?c3 ?c4 ?c5; (case kA => exact rfl); (case kF => exact rfl); (case kK => assumption); (case k1 => k_asm); (case k2 => k_asm); (case k3 => k_asm); (case k4 => k_asm); (case k5 => k_asm); (case k6 => k_is); (case k7 => k_is); (case k8 => k_room); (case k9 => exact BindsTo.of_eq rfl); (case c5 => decide); (case kB => exact locs rfl); (case c2 => exact rfl); (case c3 => exact rfl); (case c4 => exact rfl); k_whole; intro g' L' h' FG' F' N' B' X' T' l1; (try k_lt l1); (try dsimp only); (try k_lift B'); (try k_fold)) | (refine' code_defC ?k1 ?k2 ?k3 ?k4 ?k5 ?kA ?kF ?kK ?k6 ?k7 ?k8 ?k9 ?kB ?kD ?_ ?c2 ?c3 ?c4; (case kA => exact rfl); (case kF => exact rfl); (case kK => assumption); (case k1 => k_asm); (case k2 => k_asm); (case k3 => k_asm); (case k4 => k_asm); (case k5 => k_asm); (case k6 => k_is); (case k7 => k_is); (case k8 => k_room); (case k9 => exact BindsTo.of_eq rfl); (case kB => exact rfl); (case kD => decide +kernel); (case c2 => exact rfl); (case c3 => exact rfl); (case c4 => exact rfl); k_whole; intro g' L' h' tk' cells' FG' F' N' Y' B' X' T' l1; (try k_lt l1); k_cells Y'; (try simp only [List.cons_append, List.nil_append] at N'); (try dsimp only); (try k_lift B'); (try k_fold)))
  k_with "call builtin:divmod" => (k_here; k_dflt (refine' divmod_L ?k1 ?k2 ?k3 ?k4 ?_; (case k1 => k_asm); (case k2 => k_asm); (case k3 => omega); (case k4 => omega); k_whole); intro D' h' F' N' l1; (try k_lt l1); (try k_sweep))
  k_with "newTuple" => (k_here; k_dflt (refine' newTuple_L ?F ?N ?_ ?z; (case F => k_asm); (case N => k_asm); (case z => size_fits)); intro D' h' F' N' l1 l2; (try k_lt l1); (try k_sweep))
  intro w mean mg mb dp un gd cn cs a ccd cl outer A₀ base h₀ L m s Q E news l vs c ns i j ti tj B F X N T hk hd hu hi hlen h0 h1 h2 h3 hret
  refine wpAny_call ?_
  k_dflt k_enter
  k_steps
  refine' hret _ _ _ _ _ ?zf ?zn ?zl ?zq0
  case zn =>
    refine' subR ?zA ?zB ?zC
    case zA => assumption
    case zB => k_mem
    case zC => (intro p hp; repeat (first | exact hp | apply List.mem_cons_of_mem))
  case zf => assumption
  case zl => first | assumption | (refine ltFrom ?_; first | assumption | (simp only [AllLt, *, and_self, and_true, true_and]; done))
  case zq0 => (unfold swapped; k_asm)
theorem exch : ∀ {w : World} {mean : ExcName → Option Value} {mg mb : Str → Option Value} {dp un : Nat} {gd : Option (List Code)} {cn : Str} {cs : Scope} {a : Addr} {ccd : Value} {cl : List (Str × Addr)} {outer : List Env} {A₀ : Around} {base h₀ : Heap} {L : Addr} {m : Str → Option Value} {s : Shared} {Q E : Value → Shared → Prop} {news : List (Addr × Obj)} {l : Addr} {vs : List Value} {c : Nat} {ns : List Int} {i j : Int} {ti tj : Tok},
      Below A₀ base outer h₀ →
      Fr h₀ L s.heap m →
      (hd.heap_39 w.params).In h₀ →
      News h₀ L s.heap (news) →
      Top topProg LL mean mg mb h₀ →
      cs.kind = .function →
      (l, W.listOf vs.toArray c) ∈ news →
      dp + 4 < recursionLimit →
      un + 60 < cLine →
      (IntsAre vs ns) →
      (ns.length ≤ 12) →
      (0 ≤ i) →
      (i < (ns.length : Int)) →
      (0 ≤ j) →
      (j < (ns.length : Int)) →
      (∀ (vs' : List Value) (c' : Nat) D h' tk', Fr h₀ L h' m → News h₀ L h' ((D, W.listOf vs'.toArray c') :: news) → (∀ p ∈ (news : List (Addr × Obj)), p.1 < D) → IntsAre vs' (swapped ns i.toNat j.toNat) → Q (.ref D) { s with heap := h', toks := tk' }) →
      wpAny (model PySem.Challenge.rw_gs0003_01.row.prog w) (ktrTop dp un gd cn cs L a ccd cl outer) (call (.ref 82) [.ref l, .int i ti, .int j tj]) Q E s := by
  intro w mean mg mb dp un gd cn cs a ccd cl outer A₀ base h₀ L m s Q E news l vs c ns i j ti tj B F X N T hk g0 hd hu hi hlen h0 h1 h2 h3 hret
  exact exch_in B F X (upN N g0) T hk hd hu hi hlen h0 h1 h2 h3 (fun vs' c' D h' tk' F' N' l' f0 => hret vs' c' D h' tk' F' (dropN1 1 N') (dropL 1 l') f0)
end
end
section
section
theorem idm0 : ∀ {w : World} {mean : ExcName → Option Value} {mg mb : Str → Option Value} {dp un : Nat} {gd : Option (List Code)} {cn : Str} {cs : Scope} {a : Addr} {ccd : Value} {cl : List (Str × Addr)} {outer : List Env} {A₀ : Around} {base h₀ : Heap} {L : Addr} {m : Str → Option Value} {s : Shared} {Q E : Value → Shared → Prop} {rest : List (Addr × Obj)} {tx tb : Tok},
      Below A₀ base outer h₀ →
      Fr h₀ L s.heap m →
      (hd.heap_39 w.params).In h₀ →
      News h₀ L s.heap ((37, tabObj #[]) :: (30, tabObj #[]) :: rest) →
      Top topProg LL mean mg mb h₀ →
      cs.kind = .function →
      CodeHd base 41 37 →
      CodeHd base 34 30 →
      dp + 20 < recursionLimit →
      un + 300 < cLine →
      (∀ p ∈ rest, p.1 ≠ 37 ∧ p.1 ≠ 30) →
      (∀ (t1 t2 : Tok) (c : Nat) (c1 c2 : Addr) (oc1 oc2 : Obj) (vs1 vs2 : Array Value) (tk1 tk2 : Tok) (D : Addr) (h' : Heap) (tk' : Nat), Fr h₀ L h' m → News h₀ L h' ((D, pairO 0 0 t1 t2 c) :: (37, tab2 c2) :: (c2, oc2) :: (30, tab1 c1) :: (c1, oc1) :: rest) → oc1.data = .fields vs1 → vs1[1]? = some (.str (Str.ofString "_int2digits.<locals>.inner") tk1) → oc2.data = .fields vs2 → vs2[1]? = some (.str (Str.ofString "_digits2int.<locals>.inner") tk2) → (∀ p ∈ rest, p.1 ≠ D ∧ p.1 ≠ c1 ∧ p.1 ≠ c2) → ((@LT.lt Nat _ c1 D ∧ @LT.lt Nat _ c2 D) ∧ (@LT.lt Nat _ 37 c1 ∧ @LT.lt Nat _ 37 c2 ∧ @LT.lt Nat _ 30 c1 ∧ @LT.lt Nat _ 30 c2) ∧ @LT.lt Nat _ c1 c2) → Q (.ref D) { s with heap := h', toks := tk' }) →
      wpAny (model PySem.Challenge.rw_gs0003_01.row.prog w) (ktrTop dp un gd cn cs L a ccd cl outer) (call (.ref 56) [.int 0 tx, .int 10 tb]) Q E s := by
  k_fill
  w_top off
  k_with_none
  k_with "enter" => (first | (refine' code_defL ?k1 ?k2 ?k3 ?k4 ?k5 ?kA ?kF ?kK ?k6 ?k7 ?k8 ?k9 ?kB ?_ ?c2 ?c3 ?c4 ?c5; (case kA => exact rfl); (case kF => exact rfl); (case kK => assumption); (case k1 => k_asm); (case k2 => k_asm); (case k3 => k_asm); (case k4 => k_asm); (case k5 => k_asm); (case k6 => k_is); (case k7 => k_is); (case k8 => k_room); (case k9 => exact BindsTo.of_eq rfl); (case c5 => decide); (case kB => exact locs rfl); (case c2 => exact rfl); (case c3 => exact rfl); (case c4 => exact rfl); k_whole; intro g' L' h' FG' F' N' B' X' T' l1; (try k_lt l1); (try dsimp only); (try k_lift B'); (try k_fold)) | (refine' code_defC ?k1 ?k2 ?k3 ?k4 ?k5 ?kA ?kF ?kK ?k6 ?k7 ?k8 ?k9 ?kB ?kD ?_ ?c2 ?c3 ?c4; (case kA => exact rfl); (case kF => exact rfl); (case kK => assumption); (case k1 => k_asm); (case k2 => k_asm); (case k3 => k_asm); (case k4 => k_asm); (case k5 => k_asm); (case k6 => k_is); (case k7 => k_is); (case k8 => k_room); (case k9 => exact BindsTo.of_eq rfl); (case kB => exact rfl); (case kD => decide +kernel); (case c2 => exact rfl); (case c3 => exact rfl); (case c4 => exact rfl); k_whole; intro g' L' h' tk' cells' FG' F' N' Y' B' X' T' l1; (try k_lt l1); k_cells Y'; (try simp only [List.cons_append, List.nil_append] at N'); (try dsimp only); (try k_lift B'); (try k_fold)))
  k_with "call builtin:divmod" => (k_here; k_dflt (refine' divmod_L ?k1 ?k2 ?k3 ?k4 ?_; (case k1 => k_asm); (case k2 => k_asm); (case k3 => omega); (case k4 => omega); k_whole); intro D' h' F' N' l1; (try k_lt l1); (try k_sweep))
  k_with "binaryOp Mult ref int" => (k_here; (rename (Int.fdiv _ _ = (_ : Int)) => hb9'); rw [hb9'])
  k_with "call builtin:int.bit_length" => (k_here; (rename (((Builtin.Int.intBits _ : Nat) : Int) = (4 : Int)) => hb9'); (refine call_int_bit_length ?_); rw [hb9'])
  k_with "newTuple" => (k_here; k_dflt (refine' newTuple_L ?F ?N ?_ ?z; (case F => k_asm); (case N => k_asm); (case z => size_fits)); intro D' h' F' N' l1 l2; (try k_lt l1); (try k_sweep))
  intro w mean mg mb dp un gd cn cs a ccd cl outer A₀ base h₀ L m s Q E rest tx tb B F X N T hk C1 C2 hd hu hr hret
  have hb9 : ((Builtin.Int.intBits 10 : Nat) : Int) = 4 := by decide
  have hb8 : ((Builtin.Int.intBits 0 : Int) + 4 - 1).fdiv 4 = 0 := by decide
  refine wpAny_call ?_
  k_dflt (refine' enterS [(37, tabObj #[]), (30, tabObj #[])] B F X N (List.forall_mem_cons.mpr ⟨List.mem_cons_self, List.forall_mem_cons.mpr ⟨List.mem_cons_of_mem _ List.mem_cons_self, List.forall_mem_nil _⟩⟩) T ?kA ?kF ?kK ?k6 ?k7 ?k8 ?k9 ?kB ?_ ?c2 ?c3 ?c4 ?c5; (case kA => exact rfl); (case kF => exact rfl); (case kK => exact hk); (case k6 => k_is); (case k7 => k_is); (case k8 => k_room); (case k9 => exact BindsTo.of_eq rfl); (case c5 => decide); (case kB => exact locs rfl); (case c2 => exact rfl); (case c3 => exact rfl); (case c4 => exact rfl); k_whole)
  intro g L' h' FG F₁ N₁ B₁ X₁ T₁ l1 hst hbn
  (try k_lt l1)
  dsimp only
  (try k_lift B₁)
  (try k_fold)
  k_steps
  have hg := restIn hst (rest := rest) (fun q hq => List.mem_cons_of_mem _ (List.mem_cons_of_mem _ hq)) (fun q hq x hx => by
    rcases List.mem_cons.mp hx with rfl | hx
    · exact (hr q hq).1
    · rw [List.mem_singleton.mp hx]; exact (hr q hq).2)
  refine' hret _ _ _ _ _ _ _ _ _ _ _ _ _ _ ?zf ?zn ?zd1 ?zv1 ?zd2 ?zv2 ?zr ?zo
  case zn =>
    refine' standOver (expl := [_, _, _, _, _]) N ?zA hg (fun q hq => List.mem_cons_of_mem _ (List.mem_cons_of_mem _ hq)) ?zB ?zC
    case zA => k_asm
    case zB => k_asm
    case zC =>
      refine' List.forall_mem_cons.mpr ⟨?y1, List.forall_mem_cons.mpr ⟨?y2, List.forall_mem_cons.mpr ⟨?y3, List.forall_mem_cons.mpr ⟨?y4, List.forall_mem_cons.mpr ⟨?y5, List.forall_mem_nil _⟩⟩⟩⟩⟩
      case y1 => k_dflt k_mem
      case y2 => k_dflt k_mem
      case y3 => k_dflt k_mem
      case y4 => k_dflt k_mem
      case y5 => k_dflt k_mem
  case zf => assumption
  case zd1 => assumption
  case zv1 => with_unfolding_all assumption
  case zd2 => assumption
  case zv2 => with_unfolding_all assumption
  case zr =>
    intro p hp
    refine ⟨freshNe hg (by assumption) (by k_dflt k_mem) p hp, freshNe hg (by assumption) (by k_dflt k_mem) p hp, freshNe hg (by assumption) (by k_dflt k_mem) p hp⟩
  case zo => refine ⟨⟨?_, ?_⟩, ⟨?_, ?_, ?_, ?_⟩, ?_⟩ <;> omega
end
end
section
section
theorem idm : ∀ {w : World} {mean : ExcName → Option Value} {mg mb : Str → Option Value} {dp un : Nat} {gd : Option (List Code)} {cn : Str} {cs : Scope} {a : Addr} {ccd : Value} {cl : List (Str × Addr)} {outer : List Env} {A₀ : Around} {base h₀ : Heap} {L : Addr} {m : Str → Option Value} {s : Shared} {Q E : Value → Shared → Prop} {c1 c2 : Addr} {oc1 oc2 : Obj} {vs1 vs2 : Array Value} {tk1 tk2 : Tok} {news : List (Addr × Obj)} {x b : Int} {tx tb : Tok},
      Below A₀ base outer h₀ →
      Fr h₀ L s.heap m →
      (hd.heap_39 w.params).In h₀ →
      News h₀ L s.heap (news) →
      Top topProg LL mean mg mb h₀ →
      cs.kind = .function →
      CodeHd base 41 37 →
      CodeHd base 34 30 →
      (37, tab2 c2) ∈ news →
      (c2, oc2) ∈ news →
      (30, tab1 c1) ∈ news →
      (c1, oc1) ∈ news →
      oc1.data = .fields vs1 →
      vs1[1]? = some (.str (Str.ofString "_int2digits.<locals>.inner") tk1) →
      oc2.data = .fields vs2 →
      vs2[1]? = some (.str (Str.ofString "_digits2int.<locals>.inner") tk2) →
      dp + 16 < recursionLimit →
      un + 180 < cLine →
      (-4000 < x) →
      (x < 4096) →
      (b = 10 ∨ b = 11) →
      (∀ (q r : Int) (t1 t2 : Tok) (c : Nat) D h' tk', Fr h₀ L h' m → News h₀ L h' ((D, pairO q r t1 t2 c) :: news) → (∀ p ∈ (news : List (Addr × Obj)), p.1 < D) → DivR x b q r → Q (.ref D) { s with heap := h', toks := tk' }) →
      wpAny (model PySem.Challenge.rw_gs0003_01.row.prog w) (ktrTop dp un gd cn cs L a ccd cl outer) (call (.ref 56) [.int x tx, .int b tb]) Q E s := by
  intro w mean mg mb dp un gd cn cs a ccd cl outer A₀ base h₀ L m s Q E c1 c2 oc1 oc2 vs1 vs2 tk1 tk2 news x b tx tb B F X N T hk C1 C2 e1 e2 e3 e4 d1 v1 d2 v2 hd hu hx0 hx1 hb hret
  by_cases hx : x < 0
  · exact idmN B F X N T hk C1 C2 e1 e2 e3 e4 d1 v1 d2 v2 hd hu hx0 hx hb hret
  · exact idmP B F X N T hk C1 C2 e1 e2 e3 e4 d1 v1 d2 v2 (by omega) (by omega) (by omega) hx1 hb hret
end
end
section
section
theorem dbl : ∀ {w : World} {mean : ExcName → Option Value} {mg mb : Str → Option Value} {dp un : Nat} {gd : Option (List Code)} {cn : Str} {cs : Scope} {a : Addr} {ccd : Value} {cl : List (Str × Addr)} {outer : List Env} {A₀ : Around} {base h₀ : Heap} {L : Addr} {m : Str → Option Value} {s : Shared} {Q E : Value → Shared → Prop} {c1 c2 : Addr} {oc1 oc2 : Obj} {vs1 vs2 : Array Value} {tk1 tk2 : Tok} {news : List (Addr × Obj)} {l : Addr} {vs : List Value} {c : Nat} {ns : List Int},
      Below A₀ base outer h₀ →
      Fr h₀ L s.heap m →
      (hd.heap_39 w.params).In h₀ →
      News h₀ L s.heap (news) →
      Top topProg LL mean mg mb h₀ →
      cs.kind = .function →
      CodeHd base 41 37 →
      CodeHd base 34 30 →
      (37, tab2 c2) ∈ news →
      (c2, oc2) ∈ news →
      (30, tab1 c1) ∈ news →
      (c1, oc1) ∈ news →
      oc1.data = .fields vs1 →
      vs1[1]? = some (.str (Str.ofString "_int2digits.<locals>.inner") tk1) →
      oc2.data = .fields vs2 →
      vs2[1]? = some (.str (Str.ofString "_digits2int.<locals>.inner") tk2) →
      (l, W.listOf vs.toArray c) ∈ news →
      dp + 18 < recursionLimit →
      un + 220 < cLine →
      (IntsAre vs ns) →
      (ns.length ≤ 12) →
      (∀ i : Nat, 0 ≤ ns.getD i 0 ∧ ns.getD i 0 < 20) →
      (∀ t h' tk', Fr h₀ L h' m → News h₀ L h' (news) → Q (.int (luhn ns) t) { s with heap := h', toks := tk' }) →
      wpAny (model PySem.Challenge.rw_gs0003_01.row.prog w) (ktrTop dp un gd cn cs L a ccd cl outer) (call (.ref 70) [.ref l]) Q E s := by
  k_fill
  w_top off
  k_with_none
  k_with "enter" => (first | (refine' code_defL ?k1 ?k2 ?k3 ?k4 ?k5 ?kA ?kF ?kK ?k6 ?k7 ?k8 ?k9 ?kB ?_ ?c2 ?c3 ?c4 ?c5; (case kA => exact rfl); (case kF => exact rfl); (case kK => assumption); (case k1 => k_asm); (case k2 => k_asm); (case k3 => k_asm); (case k4 => k_asm); (case k5 => k_asm); (case k6 => k_is); (case k7 => k_is); (case k8 => k_room); (case k9 => exact BindsTo.of_eq rfl); (case c5 => decide); (case kB => exact locs rfl); (case c2 => exact rfl); (case c3 => exact rfl); (case c4 => exact rfl); k_whole; intro g' L' h' FG' F' N' B' X' T' l1; (try k_lt l1); (try dsimp only); (try k_lift B'); (try k_fold)) | (refine' code_defC ?k1 ?k2 ?k3 ?k4 ?k5 ?kA ?kF ?kK ?k6 ?k7 ?k8 ?k9 ?kB ?kD ?_ ?c2 ?c3 ?c4; (case kA => exact rfl); (case kF => exact rfl); (case kK => assumption); (case k1 => k_asm); (case k2 => k_asm); (case k3 => k_asm); (case k4 => k_asm); (case k5 => k_asm); (case k6 => k_is); (case k7 => k_is); (case k8 => k_room); (case k9 => exact BindsTo.of_eq rfl); (case kB => exact rfl); (case kD => decide +kernel); (case c2 => exact rfl); (case c3 => exact rfl); (case c4 => exact rfl); k_whole; intro g' L' h' tk' cells' FG' F' N' Y' B' X' T' l1; (try k_lt l1); k_cells Y'; (try simp only [List.cons_append, List.nil_append] at N'); (try dsimp only); (try k_lift B'); (try k_fold)))
  k_with "call builtin:divmod" => (k_here; k_dflt (refine' divmod_L ?k1 ?k2 ?k3 ?k4 ?_; (case k1 => k_asm); (case k2 => k_asm); (case k3 => omega); (case k4 => omega); k_whole); intro D' h' F' N' l1; (try k_lt l1); (try k_sweep))
  k_with "call ref" => (k_here; k_dflt (refine' idm ?z_B ?z_F ?z_X ?z_N ?z_T ?z_hk ?z_C1 ?z_C2 ?z_e1 ?z_e2 ?z_e3 ?z_e4 ?z_d1 ?z_v1 ?z_d2 ?z_v2 ?z_hd ?z_hu ?z_hx0 ?z_hx1 ?z_hb ?_; (case z_B => k_asm); (case z_F => k_asm); (case z_X => k_asm); (case z_N => k_asm); (case z_T => k_asm); (case z_hk => first | exact rfl | with_reducible assumption | assumption); (case z_C1 => kn_code); (case z_C2 => kn_code); (case z_e1 => (repeat (first | exact List.Mem.head _ | apply List.Mem.tail))); (case z_e2 => (repeat (first | exact List.Mem.head _ | apply List.Mem.tail))); (case z_e3 => (repeat (first | exact List.Mem.head _ | apply List.Mem.tail))); (case z_e4 => (repeat (first | exact List.Mem.head _ | apply List.Mem.tail))); (case z_d1 => k_asm); (case z_v1 => k_asm); (case z_d2 => k_asm); (case z_v2 => k_asm); (case z_hd => cb_room); (case z_hu => cb_units); (case z_hx0 => omega); (case z_hx1 => omega); (case z_hb => first | assumption | exact Or.inl rfl | exact Or.inr rfl); k_whole); intro q' r' t1' t2' c' D' h' tk' F' N' l1 f0'; (try k_lt l1); (try dsimp only); (try k_sweep); (try k_fold))
  intro w mean mg mb dp un gd cn cs a ccd cl outer A₀ base h₀ L m s Q E c1 c2 oc1 oc2 vs1 vs2 tk1 tk2 news l vs c ns B F X N T hk C1 C2 e1 e2 e3 e4 d1 v1 d2 v2 g0 hd hu hi hlen hbd hret
  refine wpAny_call ?_
  k_dflt (refine' enterS [(l, W.listOf vs.toArray c), (37, tab2 c2), (c2, oc2), (30, tab1 c1), (c1, oc1)] B F X N (List.forall_mem_cons.mpr ⟨g0, List.forall_mem_cons.mpr ⟨e1, List.forall_mem_cons.mpr ⟨e2, List.forall_mem_cons.mpr ⟨e3, List.forall_mem_cons.mpr ⟨e4, List.forall_mem_nil _⟩⟩⟩⟩⟩) T ?kA ?kF ?kK ?k6 ?k7 ?k8 ?k9 ?kB ?_ ?c2 ?c3 ?c4 ?c5; (case kA => exact rfl); (case kF => exact rfl); (case kK => exact hk); (case k6 => k_is); (case k7 => k_is); (case k8 => k_room); (case k9 => exact BindsTo.of_eq rfl); (case c5 => decide); (case kB => exact locs rfl); (case c2 => exact rfl); (case c3 => exact rfl); (case c4 => exact rfl); k_whole)
  intro g L' h' FG F₁ N₁ B₁ X₁ T₁ l1 hst hbn
  (try k_lt l1)
  clear g0 e1 e2 e3 e4
  dsimp only
  (try k_lift B₁)
  (try k_fold)
  repeat' ((fail_if_success (with_reducible show wpAny _ _ (pyIter (Value.ref _)) (fun it s₂ => LoopAtV _ _ _ _ _ _ _ _ _ it s₂) _ _)); (first | (k_unfold; (try dsimp only)) | (k_end; wrow_close) | walk1 | (dsimp only; walk1) | (leave1; walk_say "STEP leave1"; try dsimp only) | fail "no step"))
  rename Fr _ _ _ _ => lF
  rename News _ _ _ _ => lN
  rename IsRange _ _ _ _ _ _ _ _ => rgX
  (with_unfolding_all refine' tbr_tree1 (δ := Int) (Rel := fun _ v d => ∃ t, v = Value.int d t) (y := Str.ofString "whole") [Str.ofString "figure", Str.ofString "often", Str.ofString "rest"] (dstep ns) (by rfl) rgX (rng_small hlen) (rangeSize_nat _ _) lF lN (by rfl) ⟨_, rfl⟩ (fun k t v d u tl h tk own hlo hhi hoff ht hto hR F' N' => ?_) (fun u v tl h tk ht hR F' N' => ?_))
  · obtain ⟨t0, rfl⟩ := hR
    clear lF lN rgX
    simp only [List.cons_append, List.nil_append] at N'
    obtain ⟨tail, htail⟩ : ∃ tail, tail = tl ++ own := ⟨_, rfl⟩
    rw [← htail] at N'
    have hb9 := hbd ((ns.length : Int) - 1 - k).toNat
    (try k_fold)
    k_steps
    all_goals
      refine' tbKeep_end (tl := tl) ?zF ?zN ?zn ?zo hoff ?zy ?zR ?zm
      case zF => assumption
      case zN => k_asm
      case zn => (intro p hp; repeat (first | exact List.mem_append_left tail hp | apply List.mem_cons_of_mem))
      case zo => (intro p hp; have hp2 : p ∈ tail := htail ▸ List.mem_append_right _ hp; repeat (first | exact hp2 | apply List.mem_cons_of_mem))
      case zy => rfl
      case zR =>
        refine intv ?_
        simp only [dstep, dd, DivR, fm2, ne_eq] at *
        by_cases hk2 : k % 2 = 1 <;> simp only [hk2, if_true, if_false] <;> omega
      case zm => (intro z h1 h2 h3; have h4 := h3; simp only [List.contains_cons, List.contains_nil, Bool.or_eq_false_iff, beq_eq_false_iff_ne, ne_eq, Bool.or_false] at h3; simp only [h1, h2, h3, h4, if_false, Bool.false_eq_true])
  · obtain ⟨t0, rfl⟩ := hR
    clear lF lN rgX
    simp only [List.cons_append, List.nil_append] at N'
    have hn9 := rng_n ns.length
    rw [hn9] at F'
    change Fr _ _ _ (fun z => if z = Str.ofString "k" then u z else if z = Str.ofString "whole" then some (Value.int (dsum ns) t0) else _) at F'
    have hs9 := dsum_bd hlen hbd
    (try k_fold)
    k_steps
    refine' cb_retI (Q := Q) (s := s) hret ?ze ?zf ?zn
    case zn =>
      refine' standAll0 N ?zA hst ?zB ?zC
      case zA => k_asm
      case zB => k_asm
      case zC => kcj_all
    case zf => assumption
    case ze => (simp only [DivR] at *; unfold luhn; omega)
end
end
section
section
theorem plc_in : ∀ {w : World} {mean : ExcName → Option Value} {mg mb : Str → Option Value} {dp un : Nat} {gd : Option (List Code)} {cn : Str} {cs : Scope} {a : Addr} {ccd : Value} {cl : List (Str × Addr)} {outer : List Env} {A₀ : Around} {base h₀ : Heap} {L : Addr} {m : Str → Option Value} {s : Shared} {Q E : Value → Shared → Prop} {c1 c2 : Addr} {oc1 oc2 : Obj} {vs1 vs2 : Array Value} {tk1 tk2 : Tok} {news : List (Addr × Obj)} {l : Addr} {vs : List Value} {c : Nat} {ns : List Int},
      Below A₀ base outer h₀ →
      Fr h₀ L s.heap m →
      (hd.heap_39 w.params).In h₀ →
      News h₀ L s.heap ((l, W.listOf vs.toArray c) :: (37, tab2 c2) :: (c2, oc2) :: (30, tab1 c1) :: (c1, oc1) :: news) →
      Top topProg LL mean mg mb h₀ →
      cs.kind = .function →
      CodeHd base 41 37 →
      CodeHd base 34 30 →
      oc1.data = .fields vs1 →
      vs1[1]? = some (.str (Str.ofString "_int2digits.<locals>.inner") tk1) →
      oc2.data = .fields vs2 →
      vs2[1]? = some (.str (Str.ofString "_digits2int.<locals>.inner") tk2) →
      dp + 18 < recursionLimit →
      un + 220 < cLine →
      (IntsAre vs ns) →
      (ns.length ≤ 12) →
      (∀ i : Nat, 0 ≤ ns.getD i 0 ∧ ns.getD i 0 < 20) →
      (∀ t h' tk', Fr h₀ L h' m → News h₀ L h' ((l, W.listOf vs.toArray c) :: (37, tab2 c2) :: (c2, oc2) :: (30, tab1 c1) :: (c1, oc1) :: news) → Q (.int (places ns) t) { s with heap := h', toks := tk' }) →
      wpAny (model PySem.Challenge.rw_gs0003_01.row.prog w) (ktrTop dp un gd cn cs L a ccd cl outer) (call (.ref 75) [.ref l]) Q E s := by
  k_fill
  w_top off
  k_with_none
  k_with "enter" => (first | (refine' code_defL ?k1 ?k2 ?k3 ?k4 ?k5 ?kA ?kF ?kK ?k6 ?k7 ?k8 ?k9 ?kB ?_ ?c2 ?c3 ?c4 ?c5; (case kA => exact rfl); (case kF => exact rfl); (case kK => assumption); (case k1 => k_asm); (case k2 => k_asm); (case k3 => k_asm); (case k4 => k_asm); (case k5 => k_asm); (case k6 => k_is); (case k7 => k_is); (case k8 => k_room); (case k9 => exact BindsTo.of_eq rfl); (case c5 => decide); (case kB => exact locs rfl); (case c2 => exact rfl); (case c3 => exact rfl); (case c4 => exact rfl); k_whole; intro g' L' h' FG' F' N' B' X' T' l1; (try k_lt l1); (try dsimp only); (try k_lift B'); (try k_fold)) | (refine' code_defC ?k1 ?k2 ?k3 ?k4 ?k5 ?kA ?kF ?kK ?k6 ?k7 ?k8 ?k9 ?kB ?kD ?_ ?c2 ?c3 ?c4; (case kA => exact rfl); (case kF => exact rfl); (case kK => assumption); (case k1 => k_asm); (case k2 => k_asm); (case k3 => k_asm); (case k4 => k_asm); (case k5 => k_asm); (case k6 => k_is); (case k7 => k_is); (case k8 => k_room); (case k9 => exact BindsTo.of_eq rfl); (case kB => exact rfl); (case kD => decide +kernel); (case c2 => exact rfl); (case c3 => exact rfl); (case c4 => exact rfl); k_whole; intro g' L' h' tk' cells' FG' F' N' Y' B' X' T' l1; (try k_lt l1); k_cells Y'; (try simp only [List.cons_append, List.nil_append] at N'); (try dsimp only); (try k_lift B'); (try k_fold)))
  k_with "call builtin:divmod" => (k_here; k_dflt (refine' divmod_L ?k1 ?k2 ?k3 ?k4 ?_; (case k1 => k_asm); (case k2 => k_asm); (case k3 => omega); (case k4 => omega); k_whole); intro D' h' F' N' l1; (try k_lt l1); (try k_sweep))
  k_with "eval Name" => (k_here; (with_reducible show wpAny _ _ (eval (Expr.Name _ _) (compEnvC _ _ _ _)) _ _ _); k_dflt (first | (refine' LCgL.ld_built ?a1 ?a2 ?a3 ?a4 ?a5 ?a6 ?_; (case a1 => k_asm); (case a2 => k_asm); (case a3 => k_asm); (case a4 => k_is); (case a5 => boot_by_name); (case a6 => decide); k_whole)))
  k_with "eval Name" => (k_here; (with_reducible show wpAny _ _ (eval (Expr.Name _ _) (compEnvC _ _ _ _)) _ _ _); k_dflt (first | (refine' lcf_cell ?N ?c ?m ?d ?_ ?a ?b; (case a => rfl); (case b => rfl); (case N => k_asm); (case c => rfl); (case m => k_mem); (case d => k_asm); k_whole)))
  k_with "call ref" => (k_here; k_dflt (refine' idm ?z_B ?z_F ?z_X ?z_N ?z_T ?z_hk ?z_C1 ?z_C2 ?z_e1 ?z_e2 ?z_e3 ?z_e4 ?z_d1 ?z_v1 ?z_d2 ?z_v2 ?z_hd ?z_hu ?z_hx0 ?z_hx1 ?z_hb ?_; (case z_B => k_asm); (case z_F => k_asm); (case z_X => k_asm); (case z_N => k_asm); (case z_T => k_asm); (case z_hk => first | exact rfl | with_reducible assumption | assumption); (case z_C1 => kn_code); (case z_C2 => kn_code); (case z_e1 => (repeat (first | exact List.Mem.head _ | apply List.Mem.tail))); (case z_e2 => (repeat (first | exact List.Mem.head _ | apply List.Mem.tail))); (case z_e3 => (repeat (first | exact List.Mem.head _ | apply List.Mem.tail))); (case z_e4 => (repeat (first | exact List.Mem.head _ | apply List.Mem.tail))); (case z_d1 => k_asm); (case z_v1 => k_asm); (case z_d2 => k_asm); (case z_v2 => k_asm); (case z_hd => cb_room); (case z_hu => cb_units); (case z_hx0 => omega); (case z_hx1 => omega); (case z_hb => first | assumption | exact Or.inl rfl | exact Or.inr rfl); k_whole); intro q' r' t1' t2' c' D' h' tk' F' N' l1 f0'; (try k_lt l1); (try dsimp only); (try k_sweep); (try k_fold))
  intro w mean mg mb dp un gd cn cs a ccd cl outer A₀ base h₀ L m s Q E c1 c2 oc1 oc2 vs1 vs2 tk1 tk2 news l vs c ns B F X N T hk C1 C2 d1 v1 d2 v2 hd hu hi hlen hbd hret
  refine wpAny_call ?_
  k_dflt k_enter
  repeat' ((fail_if_success (with_reducible show wpAny _ _ (eval (PySem.Expr.ListComp _ _ _ _) _) _ _ _)); (first | (k_unfold; (try dsimp only)) | (k_end; wrow_close) | walk1 | (dsimp only; walk1) | (leave1; walk_say "STEP leave1"; try dsimp only) | fail "no step"))
  k_dflt (refine LCg.ListComp_U (F₀ := by k_asm) (by with_unfolding_all rfl) (by decide) (by rfl) (by decide) (by rfl) ?_)
  repeat' ((fail_if_success (with_reducible show LCg.CompSrc _ _ _ _ _ _ _ _ _ _ _ _ _ _)); (first | (k_unfold; (try dsimp only)) | (k_end; wrow_close) | walk1 | (dsimp only; walk1) | (leave1; walk_say "STEP leave1"; try dsimp only) | fail "no step"))
  rename IsRange _ _ _ _ _ _ _ _ => rgX
  k_dflt (refine LCg.CompSrc.range (by rfl) (by k_asm) (by k_asm) rgX (rng_small hlen) (rangeSize_nat _ _) (rng_sz hlen) ?_)
  intro g9
  refine' kcf_range (pstep ns) (fun k t I oI C oC D m₂ ys h tk E' hlo hhi hC hx F' N' off ne mk => ?_) ?_
  · (try simp only [LCg.Off3, and_true] at off)
    have hb9 := hbd k.toNat
    have hh1 : k < (ns.length : Int) := rng_lt hhi
    clear hhi
    (try k_fold)
    repeat' ((fail_if_success (with_reducible show KCfEl _ _ _ _)); (first | (k_unfold; (try dsimp only)) | (k_end; wrow_close) | walk1 | (dsimp only; walk1) | (leave1; walk_say "STEP leave1"; try dsimp only) | fail "no step"))
    exact kcf_el rfl rfl rfl
  · unfold KPfDone
    intro ys hys
    unfold LCg.FinE
    intro D' h' tk' F' N' o1'
    have hn9 := rng_n ns.length
    rw [hn9] at hys
    have hs9 := psum_bd hlen hbd
    unfold psum at hs9
    (try simp only [LCg.Off1, and_true] at o1')
    dsimp only
    k_steps
    refine' cb_retI (Q := Q) (s := s) hret ?ze ?zf ?zn
    case zn => first | assumption | exact cb_drop (by assumption) (by intro p hp; repeat (first | exact hp | apply List.mem_cons_of_mem))
    case zf => assumption
    case ze => (simp only [DivR] at *; unfold places psum; omega)
theorem plc : ∀ {w : World} {mean : ExcName → Option Value} {mg mb : Str → Option Value} {dp un : Nat} {gd : Option (List Code)} {cn : Str} {cs : Scope} {a : Addr} {ccd : Value} {cl : List (Str × Addr)} {outer : List Env} {A₀ : Around} {base h₀ : Heap} {L : Addr} {m : Str → Option Value} {s : Shared} {Q E : Value → Shared → Prop} {c1 c2 : Addr} {oc1 oc2 : Obj} {vs1 vs2 : Array Value} {tk1 tk2 : Tok} {news : List (Addr × Obj)} {l : Addr} {vs : List Value} {c : Nat} {ns : List Int},
      Below A₀ base outer h₀ →
      Fr h₀ L s.heap m →
      (hd.heap_39 w.params).In h₀ →
      News h₀ L s.heap (news) →
      Top topProg LL mean mg mb h₀ →
      cs.kind = .function →
      CodeHd base 41 37 →
      CodeHd base 34 30 →
      (37, tab2 c2) ∈ news →
      (c2, oc2) ∈ news →
      (30, tab1 c1) ∈ news →
      (c1, oc1) ∈ news →
      oc1.data = .fields vs1 →
      vs1[1]? = some (.str (Str.ofString "_int2digits.<locals>.inner") tk1) →
      oc2.data = .fields vs2 →
      vs2[1]? = some (.str (Str.ofString "_digits2int.<locals>.inner") tk2) →
      (l, W.listOf vs.toArray c) ∈ news →
      dp + 18 < recursionLimit →
      un + 220 < cLine →
      (IntsAre vs ns) →
      (ns.length ≤ 12) →
      (∀ i : Nat, 0 ≤ ns.getD i 0 ∧ ns.getD i 0 < 20) →
      (∀ t h' tk', Fr h₀ L h' m → News h₀ L h' (news) → Q (.int (places ns) t) { s with heap := h', toks := tk' }) →
      wpAny (model PySem.Challenge.rw_gs0003_01.row.prog w) (ktrTop dp un gd cn cs L a ccd cl outer) (call (.ref 75) [.ref l]) Q E s := by
  intro w mean mg mb dp un gd cn cs a ccd cl outer A₀ base h₀ L m s Q E c1 c2 oc1 oc2 vs1 vs2 tk1 tk2 news l vs c ns B F X N T hk C1 C2 e1 e2 e3 e4 d1 v1 d2 v2 g0 hd hu hi hlen hbd hret
  exact plc_in B F X (upN (upN (upN (upN (upN N e4) e3) e2) e1) g0) T hk C1 C2 d1 v1 d2 v2 hd hu hi hlen hbd (fun t h' tk' F' N' => hret t h' tk' F' (dropN 5 N'))
end
end
section
section
theorem fold_take {f : Int → Int → Int} {a : Int} {n i : Nat} (h : i < n) : ((rangeKs 0 n).take (i + 1)).foldl f a = f (((rangeKs 0 n).take i).foldl f a) (i : Int) := by
  have e : (rangeKs 0 n)[i]? = some (i : Int) := by simp [rangeKs, h]
  rw [List.take_add_one, e]
  simp
theorem luhn_of {ns : List Int} {q r : Int} (h : DivR (dsum ns) 10 q r) : r = luhn ns := by
  unfold luhn
  simp only [DivR] at h
  omega
abbrev tabsOf {c1 c2 : Addr} {oc1 oc2 : Obj} {vs1 vs2 : Array Value} {tk1 tk2 : Tok} (_ : Tabs c1 c2 oc1 oc2 vs1 vs2 tk1 tk2) : List (Addr × Obj) := [(37, tab2 c2), (c2, oc2), (30, tab1 c1), (c1, oc1)]
theorem idm0x : ∀ {w : World} {mean : ExcName → Option Value} {mg mb : Str → Option Value} {dp un : Nat} {gd : Option (List Code)} {cn : Str} {cs : Scope} {a : Addr} {ccd : Value} {cl : List (Str × Addr)} {outer : List Env} {A₀ : Around} {base h₀ : Heap} {L : Addr} {m : Str → Option Value} {s : Shared} {Q E : Value → Shared → Prop} {rest : List (Addr × Obj)} {x : Int} {tx tb : Tok},
      x = 0 →
      Below A₀ base outer h₀ →
      Fr h₀ L s.heap m →
      (hd.heap_39 w.params).In h₀ →
      News h₀ L s.heap ((37, tabObj #[]) :: (30, tabObj #[]) :: rest) →
      Top topProg LL mean mg mb h₀ →
      cs.kind = .function →
      CodeHd base 41 37 →
      CodeHd base 34 30 →
      dp + 20 < recursionLimit →
      un + 300 < cLine →
      (∀ p ∈ rest, p.1 ≠ 37 ∧ p.1 ≠ 30) →
      (∀ (t1 t2 : Tok) (c : Nat) (c1 c2 : Addr) (oc1 oc2 : Obj) (vs1 vs2 : Array Value) (tk1 tk2 : Tok) (D : Addr) (h' : Heap) (tk' : Nat), Fr h₀ L h' m → News h₀ L h' ((D, pairO 0 0 t1 t2 c) :: (37, tab2 c2) :: (c2, oc2) :: (30, tab1 c1) :: (c1, oc1) :: rest) → Tabs c1 c2 oc1 oc2 vs1 vs2 tk1 tk2 → (∀ p ∈ rest, p.1 ≠ D ∧ p.1 ≠ c1 ∧ p.1 ≠ c2) → (@LT.lt Nat _ c1 D ∧ @LT.lt Nat _ c2 D) → Q (.ref D) { s with heap := h', toks := tk' }) →
      wpAny (model PySem.Challenge.rw_gs0003_01.row.prog w) (ktrTop dp un gd cn cs L a ccd cl outer) (call (.ref 56) [.int x tx, .int 10 tb]) Q E s := by
  intro w mean mg mb dp un gd cn cs a ccd cl outer A₀ base h₀ L m s Q E rest x tx tb hx B F X N T hk C1 C2 hd hu hr hret
  subst hx
  exact idm0 B F X N T hk C1 C2 hd hu hr fun t1 t2 c c1 c2 oc1 oc2 vs1 vs2 tk1 tk2 D h' tk' F' N' q1 q2 q3 q4 q5 q6 => hret t1 t2 c c1 c2 oc1 oc2 vs1 vs2 tk1 tk2 D h' tk' F' N' ⟨q1, q2, q3, q4, q6.2⟩ q5 q6.1
theorem dbl0 : ∀ {w : World} {mean : ExcName → Option Value} {mg mb : Str → Option Value} {dp un : Nat} {gd : Option (List Code)} {cn : Str} {cs : Scope} {a : Addr} {ccd : Value} {cl : List (Str × Addr)} {outer : List Env} {A₀ : Around} {base h₀ : Heap} {L : Addr} {m : Str → Option Value} {s : Shared} {Q E : Value → Shared → Prop} {rest : List (Addr × Obj)} {l : Addr} {vs : List Value} {c : Nat} {ns : List Int},
      Below A₀ base outer h₀ →
      Fr h₀ L s.heap m →
      (hd.heap_39 w.params).In h₀ →
      News h₀ L s.heap ((l, W.listOf vs.toArray c) :: (37, tabObj #[]) :: (30, tabObj #[]) :: rest) →
      Top topProg LL mean mg mb h₀ →
      cs.kind = .function →
      CodeHd base 41 37 →
      CodeHd base 34 30 →
      dp + 24 < recursionLimit →
      un + 400 < cLine →
      IntsAre vs ns →
      ns.length ≤ 12 →
      1 ≤ ns.length →
      (∀ i : Nat, 0 ≤ ns.getD i 0 ∧ ns.getD i 0 < 20) →
      ns.getD (ns.length - 1) 0 = 0 →
      (∀ p ∈ rest, p.1 ≠ l ∧ p.1 ≠ 37 ∧ p.1 ≠ 30) →
      @LT.lt Nat _ 37 l →
      @LT.lt Nat _ 30 l →
      (∀ t c1 c2 oc1 oc2 vs1 vs2 tk1 tk2 h' tk', Fr h₀ L h' m → News h₀ L h' ((l, W.listOf vs.toArray c) :: (37, tab2 c2) :: (c2, oc2) :: (30, tab1 c1) :: (c1, oc1) :: rest) → Tabs c1 c2 oc1 oc2 vs1 vs2 tk1 tk2 → (∀ p ∈ rest, p.1 ≠ c1 ∧ p.1 ≠ c2) → l ≠ c1 → l ≠ c2 → Q (.int (luhn ns) t) { s with heap := h', toks := tk' }) →
      wpAny (model PySem.Challenge.rw_gs0003_01.row.prog w) (ktrTop dp un gd cn cs L a ccd cl outer) (call (.ref 70) [.ref l]) Q E s := by
  k_fill
  w_top off
  k_with_none
  k_with "enter" => (first | (refine' code_defL ?k1 ?k2 ?k3 ?k4 ?k5 ?kA ?kF ?kK ?k6 ?k7 ?k8 ?k9 ?kB ?_ ?c2 ?c3 ?c4 ?c5; (case kA => exact rfl); (case kF => exact rfl); (case kK => assumption); (case k1 => k_asm); (case k2 => k_asm); (case k3 => k_asm); (case k4 => k_asm); (case k5 => k_asm); (case k6 => k_is); (case k7 => k_is); (case k8 => k_room); (case k9 => exact BindsTo.of_eq rfl); (case c5 => decide); (case kB => exact locs rfl); (case c2 => exact rfl); (case c3 => exact rfl); (case c4 => exact rfl); k_whole; intro g' L' h' FG' F' N' B' X' T' l1; (try k_lt l1); (try dsimp only); (try k_lift B'); (try k_fold)) | (refine' code_defC ?k1 ?k2 ?k3 ?k4 ?k5 ?kA ?kF ?kK ?k6 ?k7 ?k8 ?k9 ?kB ?kD ?_ ?c2 ?c3 ?c4; (case kA => exact rfl); (case kF => exact rfl); (case kK => assumption); (case k1 => k_asm); (case k2 => k_asm); (case k3 => k_asm); (case k4 => k_asm); (case k5 => k_asm); (case k6 => k_is); (case k7 => k_is); (case k8 => k_room); (case k9 => exact BindsTo.of_eq rfl); (case kB => exact rfl); (case kD => decide +kernel); (case c2 => exact rfl); (case c3 => exact rfl); (case c4 => exact rfl); k_whole; intro g' L' h' tk' cells' FG' F' N' Y' B' X' T' l1; (try k_lt l1); k_cells Y'; (try simp only [List.cons_append, List.nil_append] at N'); (try dsimp only); (try k_lift B'); (try k_fold)))
  k_with "call builtin:divmod" => (k_here; k_dflt (refine' divmod_L ?k1 ?k2 ?k3 ?k4 ?_; (case k1 => k_asm); (case k2 => k_asm); (case k3 => omega); (case k4 => omega); k_whole); intro D' h' F' N' l1; (try k_lt l1); (try k_sweep))
  k_with "call ref" => (k_here; k_dflt (refine' idm ?z_B ?z_F ?z_X ?z_N ?z_T ?z_hk ?z_C1 ?z_C2 ?z_e1 ?z_e2 ?z_e3 ?z_e4 ?z_d1 ?z_v1 ?z_d2 ?z_v2 ?z_hd ?z_hu ?z_hx0 ?z_hx1 ?z_hb ?_; (case z_B => k_asm); (case z_F => k_asm); (case z_X => k_asm); (case z_N => k_asm); (case z_T => k_asm); (case z_hk => first | exact rfl | with_reducible assumption | assumption); (case z_C1 => kn_code); (case z_C2 => kn_code); (case z_e1 => (repeat (first | exact List.Mem.head _ | apply List.Mem.tail))); (case z_e2 => (repeat (first | exact List.Mem.head _ | apply List.Mem.tail))); (case z_e3 => (repeat (first | exact List.Mem.head _ | apply List.Mem.tail))); (case z_e4 => (repeat (first | exact List.Mem.head _ | apply List.Mem.tail))); (case z_d1 => k_asm); (case z_v1 => k_asm); (case z_d2 => k_asm); (case z_v2 => k_asm); (case z_hd => cb_room); (case z_hu => cb_units); (case z_hx0 => omega); (case z_hx1 => omega); (case z_hb => first | assumption | exact Or.inl rfl | exact Or.inr rfl); k_whole); intro q' r' t1' t2' c' D' h' tk' F' N' l1 f0'; (try k_lt l1); (try dsimp only); (try k_sweep); (try k_fold))
  k_with "call ref" => (k_here; (rename KPfMark => mkZ); k_dflt (refine' idm0x ?zx ?zB ?zF ?zX ?zN ?zT ?zhk ?zC1 ?zC2 ?zhd ?zhu ?zr ?_; (case zx => omega); (case zB => k_asm); (case zF => k_asm); (case zX => k_asm); (case zN => k_asm); (case zT => k_asm); (case zhk => first | exact rfl | with_reducible assumption); (case zC1 => kn_code); (case zC2 => kn_code); (case zhd => cb_room); (case zhu => cb_units); (case zr => assumption); k_whole); clear mkZ; intro t1' t2' cc' c1 c2 oc1 oc2 vs1 vs2 tk1 tk2 D' h' tk' F' N' TB hfr l1; (try k_lt l1); (try dsimp only); (try k_sweep); (try k_fold))
  intro w mean mg mb dp un gd cn cs a ccd cl outer A₀ base h₀ L m s Q E rest l vs c ns B F X N T hk C1 C2 hd hu hi hlen hpos hbd hz0 hr hl37 hl30 hret
  refine wpAny_call ?_
  k_dflt (refine' enterS [(l, W.listOf vs.toArray c), (37, tabObj #[]), (30, tabObj #[])] B F X N (List.forall_mem_cons.mpr ⟨List.mem_cons_self, List.forall_mem_cons.mpr ⟨List.mem_cons_of_mem _ List.mem_cons_self, List.forall_mem_cons.mpr ⟨List.mem_cons_of_mem _ (List.mem_cons_of_mem _ List.mem_cons_self), List.forall_mem_nil _⟩⟩⟩) T ?kA ?kF ?kK ?k6 ?k7 ?k8 ?k9 ?kB ?_ ?c2 ?c3 ?c4 ?c5; (case kA => exact rfl); (case kF => exact rfl); (case kK => exact hk); (case k6 => k_is); (case k7 => k_is); (case k8 => k_room); (case k9 => exact BindsTo.of_eq rfl); (case c5 => decide); (case kB => exact locs rfl); (case c2 => exact rfl); (case c3 => exact rfl); (case c4 => exact rfl); k_whole)
  intro g L' h' FG F₁ N₁ B₁ X₁ T₁ l1 hst hbn
  (try k_lt l1)
  dsimp only
  (try k_lift B₁)
  (try k_fold)
  repeat' ((fail_if_success (with_reducible show wpAny _ _ (pyIter (Value.ref _)) (fun it s₂ => LoopAtV _ _ _ _ _ _ _ _ _ it s₂) _ _)); (first | (k_unfold; (try dsimp only)) | (k_end; wrow_close) | walk1 | (dsimp only; walk1) | (leave1; walk_say "STEP leave1"; try dsimp only) | fail "no step"))
  rename Fr _ _ _ _ => lF
  rename News _ _ _ _ => lN
  rename IsRange _ _ _ _ _ _ _ _ => rgX
  (with_unfolding_all refine' invV (Str.ofString "whole") [Str.ofString "figure", Str.ofString "often", Str.ofString "rest"] (fun i nx v => (∃ t, v = Value.int (((rangeKs 0 ns.length).take i).foldl (dstep ns) 0) t) ∧ (if i = 0 then nx = [(l, W.listOf vs.toArray c), (37, tabObj #[]), (30, tabObj #[])] else ∃ c1 c2 oc1 oc2 vs1 vs2 tk1 tk2, Tabs c1 c2 oc1 oc2 vs1 vs2 tk1 tk2 ∧ l ≠ c1 ∧ l ≠ c2 ∧ nx = [(l, W.listOf vs.toArray c), (37, tab2 c2), (c2, oc2), (30, tab1 c1), (c1, oc1)])) (by rfl) rgX (rng_small hlen) (rangeSize_nat _ _) lF (by exact lN) (by rfl) ⟨⟨_, rfl⟩, rfl⟩ (fun i t v u nx h tk own hi9 hoff hR F' N' => ?_) (fun u v nx h tk hR F' N' => ?_))
  · obtain ⟨⟨t0, rfl⟩, hnx⟩ := hR
    clear lF lN rgX
    cases i with
    | zero =>
      rw [if_pos rfl] at hnx
      subst hnx
      rw [show (0 : Int) + ((0 : Nat) : Int) = 0 from rfl] at F'
      have N2 : News g L' h ((37, tabObj #[]) :: (30, tabObj #[]) :: (l, W.listOf vs.toArray c) :: own) := cb_drop N' (fun p hp => by
        simp only [List.cons_append, List.nil_append, List.mem_cons] at hp ⊢
        rcases hp with h | h | h | h <;> simp only [h, true_or, or_true])
      clear N'
      have hr0 : ∀ p ∈ ((l, W.listOf vs.toArray c) :: own : List (Addr × Obj)), p.1 ≠ 37 ∧ p.1 ≠ 30 := fun p hp => by
        rcases List.mem_cons.mp hp with rfl | hp
        · exact ⟨(Nat.ne_of_lt hl37).symm, (Nat.ne_of_lt hl30).symm⟩
        · exact ⟨hoff p hp (37, tabObj #[]) (List.mem_cons_of_mem _ List.mem_cons_self), hoff p hp (30, tabObj #[]) (List.mem_cons_of_mem _ (List.mem_cons_of_mem _ List.mem_cons_self))⟩
      have hz9 : ns.getD ((ns.length : Int) - 1 - 0).toNat 0 = 0 := by
        rw [show ((ns.length : Int) - 1 - 0).toNat = ns.length - 1 by omega]; exact hz0
      have hoffl : ∀ p ∈ own, p.1 ≠ l := fun p hp => hoff p hp (l, W.listOf vs.toArray c) List.mem_cons_self
      have mkZ : KPfMark := True.intro
      (try k_fold)
      k_steps
      rename Tabs _ _ _ _ _ _ _ _ => TBz
      rename (∀ p ∈ ((l, W.listOf vs.toArray c) :: own : List (Addr × Obj)), p.1 ≠ _ ∧ p.1 ≠ _ ∧ p.1 ≠ _) => hfr
      have hl9 := hfr _ List.mem_cons_self
      refine' vj_end (nx := (l, W.listOf vs.toArray c) :: tabsOf TBz) ?zF ?zN ?zn ?zo ?zh ?zy ?zR ?zm
      case zF => assumption
      case zy => rfl
      case zR =>
        refine ⟨intv ?_, ?_⟩
        · rw [fold_take (by omega : 0 < ns.length)]
          show _ = _ + dd 0 (ns.getD ((ns.length : Int) - 1 - 0).toNat 0)
          rw [hz9]
          simp [dd]
        · rw [if_neg (Nat.succ_ne_zero _)]
          exact ⟨_, _, _, _, _, _, _, _, TBz, hl9.2.1, hl9.2.2, rfl⟩
      case zN => assumption
      case zn => (dsimp only [tabsOf]; kcj_all)
      case zo => kcj_all
      case zh =>
        intro p hp q hq
        dsimp only [tabsOf] at hq
        have hp9 := hr0 p (List.mem_cons_of_mem _ hp)
        have hp8 := hfr p (List.mem_cons_of_mem _ hp)
        simp only [List.mem_cons, List.not_mem_nil, or_false] at hq
        rcases hq with rfl | rfl | rfl | rfl | rfl
        · exact hoffl p hp
        · exact hp9.1
        · exact hp8.2.2
        · exact hp9.2
        · exact hp8.2.1
      case zm => (intro z h1 h2 h3; have h4 := h3; simp only [List.contains_cons, List.contains_nil, Bool.or_eq_false_iff, beq_eq_false_iff_ne, ne_eq, Bool.or_false] at h3; simp only [h1, h2, h3, h4, if_false, Bool.false_eq_true])
    | succ i =>
      rw [if_neg (Nat.succ_ne_zero i)] at hnx
      obtain ⟨c1, c2, oc1, oc2, vs1, vs2, tk1, tk2, TB, hlc1, hlc2, rfl⟩ := hnx
      obtain ⟨d1, v1, d2, v2, _⟩ := id TB
      simp only [List.cons_append, List.nil_append] at N'
      obtain ⟨k, hk9⟩ : ∃ k : Int, k = 0 + ((i + 1 : Nat) : Int) := ⟨_, rfl⟩
      rw [← hk9] at F'
      have hlo : 0 ≤ k := by omega
      have hhi : k < (ns.length : Int) := by omega
      have hb9 := hbd ((ns.length : Int) - 1 - k).toNat
      (try k_fold)
      k_steps
      all_goals
        refine' vj_end (nx := _) ?zF ?zN ?zn ?zo hoff ?zy ?zR ?zm
        case zF => assumption
        case zy => rfl
        case zR =>
          refine ⟨intv ?_, ?_⟩
          · rw [fold_take (by omega : i + 1 < ns.length), show ((i + 1 : Nat) : Int) = k by omega]
            simp only [dstep, dd, DivR, fm2, ne_eq] at *
            by_cases hk2 : k % 2 = 1 <;> simp only [hk2, if_true, if_false] <;> omega
          · rw [if_neg (Nat.succ_ne_zero _)]
            exact ⟨_, _, _, _, _, _, _, _, TB, hlc1, hlc2, rfl⟩
        case zN => assumption
        case zn => kcj_all
        case zo => kcj_all
        case zm => (intro z h1 h2 h3; have h4 := h3; simp only [List.contains_cons, List.contains_nil, Bool.or_eq_false_iff, beq_eq_false_iff_ne, ne_eq, Bool.or_false] at h3; simp only [h1, h2, h3, h4, if_false, Bool.false_eq_true])
  · obtain ⟨⟨t0, rfl⟩, hnx⟩ := hR
    clear lF lN rgX
    rw [if_neg (by omega)] at hnx
    obtain ⟨c1, c2, oc1, oc2, vs1, vs2, tk1, tk2, TB, hlc1, hlc2, rfl⟩ := hnx
    obtain ⟨d1, v1, d2, v2, _⟩ := id TB
    have hn9 := rng_n ns.length
    rw [hn9, show (rangeKs 0 ns.length).take ns.length = rangeKs 0 ns.length from List.take_of_length_le (by rw [rangeKs_length]; exact Nat.le_refl _)] at F'
    change Fr _ _ _ (fun z => if z = Str.ofString "k" then u z else if z = Str.ofString "whole" then some (Value.int (dsum ns) t0) else _) at F'
    have hs9 := dsum_bd hlen hbd
    (try k_fold)
    k_steps
    rename DivR _ _ _ _ => hdv
    rw [luhn_of hdv]
    have hg := restIn hst (rest := rest) (fun q hq => List.mem_cons_of_mem _ (List.mem_cons_of_mem _ (List.mem_cons_of_mem _ hq))) (fun q hq x hx => by
      have h9 := hr q hq
      simp only [List.mem_cons, List.not_mem_nil, or_false] at hx
      rcases hx with rfl | rfl | rfl
      · exact h9.1
      · exact h9.2.1
      · exact h9.2.2)
    refine' hret _ _ _ _ _ _ _ _ _ _ _ ?zf ?zn TB ?zr hlc1 hlc2
    case zn =>
      refine' standOver (expl := [_, _, _, _, _]) N ?zA hg (fun q hq => List.mem_cons_of_mem _ (List.mem_cons_of_mem _ (List.mem_cons_of_mem _ hq))) ?zB ?zC
      case zA => k_asm
      case zB => k_asm
      case zC =>
        refine' List.forall_mem_cons.mpr ⟨?y1, List.forall_mem_cons.mpr ⟨?y2, List.forall_mem_cons.mpr ⟨?y3, List.forall_mem_cons.mpr ⟨?y4, List.forall_mem_cons.mpr ⟨?y5, List.forall_mem_nil _⟩⟩⟩⟩⟩
        case y1 => k_dflt k_mem
        case y2 => k_dflt k_mem
        case y3 => k_dflt k_mem
        case y4 => k_dflt k_mem
        case y5 => k_dflt k_mem
    case zf => assumption
    case zr =>
      intro p hp
      exact ⟨freshNe hg N' (by k_dflt k_mem) p hp, freshNe hg N' (by k_dflt k_mem) p hp⟩
end
end
section
section
theorem bsw : ∀ {w : World} {mean : ExcName → Option Value} {mg mb : Str → Option Value} {dp un : Nat} {cn : Str} {cs : Scope} {a : Addr} {ccd : Value} {cl : List (Str × Addr)} {outer : List Env} {A₀ : Around} {base h₀ : Heap} {L : Addr} {m : Str → Option Value} {s : Shared} {Q E : Value → Shared → Prop} {news : List (Addr × Obj)} {b : Array UInt8} {tb tn : Tok} {ks : List Int},
      Below A₀ base outer h₀ →
      Fr h₀ L s.heap m →
      (hd.heap_39 w.params).In h₀ →
      News h₀ L s.heap news →
      Top topProg LL mean mg mb h₀ →
      cs.kind = .function →
      dp + 6 < recursionLimit →
      un + 60 < cLine →
      KBw.bInts b = ks →
      0 < ks.length →
      ks.length ≤ 12 →
      (∀ b' t h' tk', Fr h₀ L h' m → News h₀ L h' news → KBw.bInts b' = ks.reverse → Q (.bytes b' t) { s with heap := h', toks := tk' }) →
      wpP (model PySem.Challenge.rw_gs0003_01.row.prog w) (ktrTop dp un (some []) cn cs L a ccd cl outer) (call (.ref 63) [.bytes b tb, .int (ks.length : Int) tn]) Q E s := by
  k_fill
  w_top off
  k_with_none
  k_with "enter" => (first | (refine' code_defL ?k1 ?k2 ?k3 ?k4 ?k5 ?kA ?kF ?kK ?k6 ?k7 ?k8 ?k9 ?kB ?_ ?c2 ?c3 ?c4 ?c5; (case kA => exact rfl); (case kF => exact rfl); (case kK => assumption); (case k1 => k_asm); (case k2 => k_asm); (case k3 => k_asm); (case k4 => k_asm); (case k5 => k_asm); (case k6 => k_is); (case k7 => k_is); (case k8 => k_room); (case k9 => exact BindsTo.of_eq rfl); (case c5 => decide); (case kB => exact locs rfl); (case c2 => exact rfl); (case c3 => exact rfl); (case c4 => exact rfl); k_whole; intro g' L' h' FG' F' N' B' X' T' l1; (try k_lt l1); (try dsimp only); (try k_lift B'); (try k_fold)) | (refine' code_defC ?k1 ?k2 ?k3 ?k4 ?k5 ?kA ?kF ?kK ?k6 ?k7 ?k8 ?k9 ?kB ?kD ?_ ?c2 ?c3 ?c4; (case kA => exact rfl); (case kF => exact rfl); (case kK => assumption); (case k1 => k_asm); (case k2 => k_asm); (case k3 => k_asm); (case k4 => k_asm); (case k5 => k_asm); (case k6 => k_is); (case k7 => k_is); (case k8 => k_room); (case k9 => exact BindsTo.of_eq rfl); (case kB => exact rfl); (case kD => decide +kernel); (case c2 => exact rfl); (case c3 => exact rfl); (case c4 => exact rfl); k_whole; intro g' L' h' tk' cells' FG' F' N' Y' B' X' T' l1; (try k_lt l1); k_cells Y'; (try simp only [List.cons_append, List.nil_append] at N'); (try dsimp only); (try k_lift B'); (try k_fold)))
  k_with "call builtin:divmod" => (k_here; k_dflt (refine' divmod_L ?k1 ?k2 ?k3 ?k4 ?_; (case k1 => k_asm); (case k2 => k_asm); (case k3 => omega); (case k4 => omega); k_whole); intro D' h' F' N' l1; (try k_lt l1); (try k_sweep))
  k_with "setItem ref int" => (k_here; k_dflt (refine' set_by_K ?F ?N ?ne ?h0 ?h1 ?hz ?v0 ?v1 ?_; (case F => k_asm); (case N => k_asm); (case ne => first | assumption | k_ne); (case h0 => omega); (case h1 => (rw [bsA_size]; omega)); (case hz => (rw [bsA_size]; omega)); (case v0 => omega); (case v1 => omega)); intro h' F' N'; (try k_sweep))
  intro w mean mg mb dp un cn cs a ccd cl outer A₀ base h₀ L m s Q E news b tb tn ks B F X N T hk hd hu hks hn0 hn1 hret
  have hsz : b.size = ks.length := by rw [← hks, KBw.ints_length]
  refine wpP_call ?_
  k_dflt (refine' enterP [] B F X N (List.forall_mem_nil _) T ?kA ?kF ?kK ?k6 ?k7 ?k8 ?k9 ?kB ?_ ?c2 ?c3 ?c4 ?c5; (case kA => exact rfl); (case kF => exact rfl); (case kK => exact hk); (case k6 => k_is); (case k7 => k_is); (case k8 => k_room); (case k9 => exact BindsTo.of_eq rfl); (case c5 => decide); (case kB => exact locs rfl); (case c2 => exact rfl); (case c3 => exact rfl); (case c4 => exact rfl); k_whole)
  intro g L' h' FG F₁ N₁ B₁ X₁ T₁ l1 hst hbn
  (try k_lt l1)
  dsimp only
  (try k_lift B₁)
  (try k_fold)
  refine wpP_execs_cons (wpP_Assign_Name (wpP_Call1 rfl ?_))
  k_steps

  refine wpP_type1 ?_
  k_steps
  refine' new_by_K ?zg ?zF ?zN ?z0 ?z1 ?_
  case zg => rfl
  case zF => k_asm
  case zN => k_asm
  case z0 => omega
  case z1 => omega
  intro D h' F' N' l1
  (try k_lt l1)
  rw [show ((ks.length : Nat) : Int).toNat = b.size by omega, bsA_zero] at N'
  (try k_sweep)
  k_steps
  show wpP _ _ (execs _ _) _ _ _
  refine wpP_of ?_
  repeat' ((fail_if_success (with_reducible show wpAny _ _ (pyIter (Value.ref _)) (fun it s₂ => LoopAtV _ _ _ _ _ _ _ _ _ it s₂) _ _)); (first | (k_unfold; (try dsimp only)) | (k_end; wrow_close) | walk1 | (dsimp only; walk1) | (leave1; walk_say "STEP leave1"; try dsimp only) | fail "no step"))
  rename Fr _ _ _ _ => lF
  rename News _ _ _ _ => lN
  rename IsRange _ _ _ _ _ _ _ _ => rgX
  (with_unfolding_all refine' invT (Str.ofString "i") (Str.ofString "j") (fun i => [(D, byO (bsA b (if i = 0 then 0 else b.size)))]) (by rfl) rgX (bs_small hn0 hn1) (bs_one hn0 hn1) lF (by exact lN) (fun i t u h tk own hi hoff F' N' => ?_) (fun u h tk F' N' => ?_))
  · obtain rfl : i = 0 := by omega
    clear lF lN rgX
    rw [show (0 : Int) + ((0 : Nat) : Int) * (ks.length : Int) = 0 by omega] at F'
    have N2 : News g L' h ((D, byO (bsA b 0)) :: own) := N'
    clear N'
    have hoff2 : ∀ p ∈ own, p.1 ≠ D := fun p hp => hoff p hp _ (List.mem_singleton.mpr rfl)
    (try k_fold)
    repeat' ((fail_if_success (with_reducible show wpAny _ _ (pyIter (Value.ref _)) (fun it s₂ => LoopAtV _ _ _ _ _ _ _ _ _ it s₂) _ _)); (first | (k_unfold; (try dsimp only)) | (k_end; wrow_close) | walk1 | (dsimp only; walk1) | (leave1; walk_say "STEP leave1"; try dsimp only) | fail "no step"))
    rename Fr _ _ _ _ => lF
    rename News _ _ _ _ => lN
    rename IsRange _ _ _ _ _ _ _ _ => rgX
    (with_unfolding_all refine' invT (Str.ofString "j") (Str.ofString "j") (fun i => (D, byO (bsA b i)) :: own) (by rfl) rgX (rng_small hn1) (rangeSize_nat _ _) lF (by exact lN) (fun j t u h tk own' hj hoff' F' N' => ?_) (fun u h tk F' N' => ?_))
    · clear lF lN rgX
      rw [show (0 : Int) + (j : Int) * 1 = (j : Int) by omega] at F'
      have hj' : j < b.size := by omega
      have N2 : News g L' h ((D, byO (bsA b j)) :: (own ++ own')) := N'
      clear N'
      have hne : ∀ p ∈ own ++ own', p.1 ≠ D := fun p hp => (List.mem_append.mp hp).elim (hoff2 p) fun hp => hoff' p hp _ List.mem_cons_self
      obtain ⟨hb1, hb2, hb3⟩ := bs_byte hks hj'
      (try k_fold)
      k_steps
      rename News _ _ _ _ => lN
      have e9 : ∀ (x v : Int), x = (b.size : Int) - 1 - j → v = ks.getD j 0 → (bsA b j).setIfInBounds x.toNat v.toNat.toUInt8 = bsA b (j + 1) := fun x v hx hv => by
        rw [hv, hb1, show x.toNat = b.size - 1 - j by omega]
        exact bsA_step hj'
      rw [e9 _ _ (by omega) (by congr 1; omega)] at lN
      refine' k2_end ?zF lN ?zn ?zo ?zh ?zm
      case zF => assumption
      case zn => (intro p hp; rcases List.mem_cons.mp hp with rfl | hp; exact List.mem_cons_self; exact List.mem_cons_of_mem _ (List.mem_append_left _ hp))
      case zo => (intro p hp; exact List.mem_cons_of_mem _ (List.mem_append_right _ hp))
      case zh => (intro p hp q hq; rcases List.mem_cons.mp hq with rfl | hq; exact hoff' p hp (D, byO (bsA b j)) List.mem_cons_self; exact hoff' p hp q (List.mem_cons_of_mem _ hq))
      case zm => (intro z h1 h2; simp only [h1, if_false])
    · clear lF lN rgX
      rw [rng_n] at N'
      have N2 : News g L' h ((D, byO (bsA b ks.length)) :: own) := N'
      clear N'
      (try k_fold)
      k_steps
      refine' k2_end ?zF (hsz ▸ N2) ?zn ?zo ?zh ?zm
      case zF => assumption
      case zn => (intro p hp; rcases List.mem_cons.mp hp with rfl | hp; exact List.mem_cons_self; cases hp)
      case zo => (intro p hp; exact List.mem_cons_of_mem _ hp)
      case zh => (intro p hp q hq; rcases List.mem_cons.mp hq with rfl | hq; exact hoff2 p hp; cases hq)
      case zm => (intro z h1 h2; simp only [h1, h2, if_false])
  · clear lF lN rgX
    have N2 : News g L' h [(D, byO (bsA b b.size))] := N'
    clear N'
    (try k_fold)
    k_steps
    refine' bytes_by (N2 _ List.mem_cons_self).1 (by rw [bsA_size, PySem.sizeLine_eq]; omega) ?_
    intro t9 k9
    (try dsimp only)
    rename Fr _ _ _ _ => lF
    exact ⟨_, _, _, lF, N2, fun F9 N9 => hret _ _ _ _ F9 (standAll0 N lF hst N9 (fun q hq => by cases hq)) (bsA_end hks)⟩
end
end
section
section
theorem enter_callP {M : Model} {A : Around} {s : Shared} {f : Value} {pos : List Value} {kw : List (Str × Value)} {c : ClaimW} {cl : Str → Option Addr} {mean : ExcName → Option Value} {args : List WData} {s₁ : Shared}
    (h : codeP M A (.call f ⟨pos, kw⟩) (GoodWG c cl mean args s₁) s) : wpP M A (PySem.call f pos kw) (fun v s' => GoodWG c cl mean args s₁ (.ok (.ret v)) s') (fun e s' => GoodWG c cl mean args s₁ (.error e) s') s :=
  wpP_call (codeP_mono h fun res s' g => by rcases g.1 with ⟨v, _, _, rfl, _⟩ | ⟨e, _, _, rfl, _⟩ <;> exact g)
theorem postP {M : Model} {A : Around} {cd : Code} {s s₁ : Shared} {cw : ClaimW} {cl : Str → Option Addr} {mean : ExcName → Option Value} {args : List WData} {tabs : List (Addr × Addr)} (hT : TabsAt tabs s₁.heap) (hr : ∀ a x, cw.raises a x = false)
    (h : codeP M A cd (fun r s' => GoodW cw cl mean args { s₁ with heap := ghostOf s₁.heap tabs } r s' ∧ GrownAll tabs s'.heap) s) : codeP M A cd (GoodWG cw cl mean args s₁) s :=
  codeP_mono h fun r s' ⟨⟨hc, hk, hos, hg⟩, hgr⟩ => by
    have keep : ∀ b o, b ∉ tabs.map (·.2) → s₁.heap.get? b = some o → s'.heap.get? b = some o := fun b o hb e => hk b o (ghost_ne e hb)
    have grown : ∀ b o, b ∈ tabs.map (·.2) → s₁.heap.get? b = some o → isCodeTable s₁.heap b ∧ o = tabObj #[] ∧ ∃ ps, s'.heap.get? b = some (tabObj ps) := fun b o hb e => by
      obtain ⟨q, hq, rfl⟩ := List.mem_map.mp hb
      have e2 := (hT q hq).2
      rw [e] at e2
      exact ⟨((hT q hq).1.tab (hT q hq).2).isCodeTable, Option.some.inj e2, hgr.get q hq⟩
    refine ⟨?_, ⟨fun b o e => ?_, fun b o e => ?_⟩, hos, .of_eq hg⟩
    · rcases hc with ⟨v, d, as, r1, r2, r3, r4, r5⟩ | ⟨e, ob, x, _, _, _, r4, _⟩
      · refine .inl ⟨v, d, as, r1, r2, r3, r4, fun q => ⟨(r5 q).1, fun a ha => ?_⟩⟩
        cases q1 : s₁.heap.get? a with
        | none => rfl
        | some o =>
          by_cases hb : a ∈ tabs.map (·.2)
          · obtain ⟨_, _, ps, hP⟩ := grown a o hb q1
            exact absurd ha (readsW_apart hP rfl r3)
          · have e3 := (r5 q).2 a ha
            rw [show (ghostOf s₁.heap tabs).get? a = some o from ghost_ne q1 hb] at e3
            cases e3
      · rw [hr] at r4; cases r4
    · by_cases hb : b ∈ tabs.map (·.2)
      · obtain ⟨ht, rfl, ps, hP⟩ := grown b o hb e
        exact .inr (.inl ⟨ht, rfl, #[], ps, rfl, by rw [Array.empty_append]; exact hP⟩)
      · exact .inl (keep b o hb e)
    · by_cases hb : b ∈ tabs.map (·.2)
      · obtain ⟨_, _, ps, hP⟩ := grown b o hb e
        exact ⟨_, hP⟩
      · exact ⟨o, keep b o hb e⟩
theorem cellsP {prog : Program} {w : World} {A : Around} {R : Result → Shared → Prop} {s : Shared} {name : Str} {params : Arguments} {body : List Stmt} {scope : Scope}
    {pm cd doc : Value} {a : Addr} {o : Obj} {args : List Value} {binds : List (Str × Value)}
    (hroom : A.depth < recursionLimit) (ho : s.heap.get? a = some o) (hdata : o.data = .func (Calls.docDef name params body scope pm cd doc)) (hlim : s.heap.NoLimit) (hcd : s.heap.CodeRec cd name)
    (hbind : bindArgs (Calls.docDef name params body scope pm cd doc) ⟨args, []⟩ = pure binds)
    (hkind : ∀ x ∈ binds, scope.names.lookup x.1 = some .local ∨ (scope.names.lookup x.1 = some .cell ∧ ((cellsFrom (s.heap.objs.size + 1) scope.names []).lookup x.1).isSome = true))
    (hnd : ((cellsFrom 0 scope.names []).map (·.1)).Nodup)
    (h : ∀ h₁ tk cells, Fr s.heap s.heap.objs.size h₁ (bindL (envOfC name scope s.heap.objs.size a cd).kindOf binds fun _ => none) → News s.heap s.heap.objs.size h₁ cells →
      CellsAre (bindC (envOfC name scope s.heap.objs.size a cd).kindOf binds fun _ => none) (cellsFrom (s.heap.objs.size + 1) scope.names []) cells →
      wpP (model prog w) (A.deeper (envOfC name scope s.heap.objs.size a cd)) (execs body (envOfC name scope s.heap.objs.size a cd))
        (fun f s' => R (.ok (.ret (match f with | .ret v => v | _ => .none))) s')
        (fun e s' => wpAny (model prog w) (A.deeper (envOfC name scope s.heap.objs.size a cd)) (leaving (envOfC name scope s.heap.objs.size a cd) e)
          (fun _ s'' => R (.error e) s'') (fun e' s'' => R (.error e') s'') s')
        { s with heap := h₁, toks := tk })
    (hco : scope.isCoroutine = false := by rfl) (hgen : scope.isGenerator = false := by rfl) (hk : scope.kind = .function := by rfl) :
    codeP (model prog w) A (.call (.ref a) ⟨args, []⟩) R s := by
  refine codeP_call_function (fd := Calls.docDef name params body scope pm cd doc) (body := body) hroom ho hdata hco hgen rfl hcd ?_
  rw [hbind]
  refine wpAny_pure ?_
  refine wpAny_newFunctionEnv_cells hk hkind fun env' he s' X => ?_
  subst he
  refine ⟨hlim.keeps X.toInCall.keep, codeP_func ?_⟩
  obtain ⟨h₁, tk, rfl, _⟩ := X.done
  obtain ⟨cells, N, Y⟩ := Cl.news (h₀ := s.heap) (Nat.le_refl _) fun n c hm => ⟨X.cell n c (lookup_of_mem_nodup (cellsFrom_names scope.names 0 (s.heap.objs.size + 1) [] [] rfl ▸ hnd) hm), X.above n c hm⟩
  exact h h₁ tk cells ⟨X.toInCall.ns, X.toInCall.keep, X.toInCall.fresh⟩ N Y
end
end
section
section
abbrev getD {q : Program} {loose : List Str} {XP : (Str → Option Value) → Heap → Prop} {YP : World → Heap → Prop} {r : RowW} {d : DefRec} {kwd : List (Str × Expr)} {run : Value → List Value → Sem Value} {H : Prop} (_ : WalkP q loose XP YP r d kwd run → H) : DefRec := d
noncomputable abbrev lawD : DefRec := getD hd
noncomputable abbrev lawB : List Stmt := lawD.body
noncomputable abbrev lawE (L fa : Addr) (cd : Value) : Env := envOfC lawD.name lawD.scope L fa cd
abbrev lawA (env : Env) : Around := callerA.deeper env
end
end
section
open PySem PySem.W PyProof.Rows PySem.Spec PySem.Calls PyProof.Rows.LCt PyProof.Rows.LCg
section
def TestEnd (h₀ : Heap) (L : Addr) (m : Str → Option Value) (s₁ : Shared) (I : Addr) (oI : Obj) (C : Addr) (oC : Obj) (D : Addr) (oD : Obj) (b : Bool) (J : List (Addr × Obj) → Prop) (ok : Bool) (s₂ : Shared) : Prop :=
  ok = b ∧ ∃ h' tk news', s₂ = { s₁ with heap := h', toks := tk } ∧ Fr h₀ L h' m ∧ News h₀ L h' ((I, oI) :: (C, oC) :: (D, oD) :: news') ∧ Off3 I C D news' ∧ J news'
section
variable {prog : Program} {w : World} {A : Around} {E : Value → Shared → Prop} {s : Shared} {h₀ : Heap} {L : Addr} {m : Str → Option Value} {env : Env}
theorem filt {ct : Expr} {x : Str} {px : Pos} {scope : Scope} {cl : List (Str × Addr)} {Fin : List Value → List (Addr × Obj) → Prop} {n : Nat} {a : Int} {news : List (Addr × Obj)} (test : Int → Bool) (J : Nat → List (Addr × Obj) → Prop)
    (hk : scope.kind = .function) (hl : ∀ C, (compEnvC scope cl C env).kindOf x = some .local) (hd : (x == ("__debug__" : Str)) = false) (h0 : J 0 news)
    (turn : ∀ (i : Nat) t I oI C oC D m₂ ys nx h tk (E' : Value → Shared → Prop), i < n → J i nx → NsObj oC m₂ → m₂ x = some (.int (a + (i : Int)) t) → Fr h₀ L h m → News h₀ L h ((I, oI) :: (C, oC) :: (D, lst ys) :: nx) → Off3 I C D nx → ((@Ne Nat I C) ∧ (@Ne Nat I D) ∧ (@Ne Nat C D)) →
      wpAny (model prog w) A (isTrue ct (compEnvC scope cl C env) (eval ct (compEnvC scope cl C env))) (TestEnd h₀ L m { s with heap := h, toks := tk } I oI C oC D (lst ys) (test (a + (i : Int))) (J (i + 1))) E' { s with heap := h, toks := tk })
    (fin : ∀ ys nx, J n nx → IntsAre ys ((rangeKs a n).filter test) → Fin ys nx) :
    CompRestT prog w A h₀ L m env ct (.Name x px) x scope cl s (fun _ => True) (fun i v => ∃ t, v = .int (a + (i : Int)) t) Fin n 0 [] news := by
  have key : ∀ (j i : Nat) (ys : List Value) (nx : List (Addr × Obj)), i + j = n → J i nx → IntsAre ys (((rangeKs a n).take i).filter test) →
      CompRestT prog w A h₀ L m env ct (.Name x px) x scope cl s (fun _ => True) (fun i v => ∃ t, v = .int (a + (i : Int)) t) Fin j i ys nx := by
    intro j
    induction j with
    | zero =>
      intro i ys nx hi hJ hy
      have e : i = n := by omega
      subst e
      rw [List.take_of_length_le (Nat.le_of_eq (rangeKs_length a i))] at hy
      exact CompRestT.zero (fin ys nx hJ hy)
    | succ j ih =>
      intro i ys nx hi hJ hy
      refine CompRestT.succ ?_
      rintro v I oI C oC D m₂ h tk E' ⟨t, rfl⟩ hC hx F N off ne
      have hkv : (rangeKs a n)[i]? = some (a + (i : Int)) := by simp [rangeKs, show i < n by omega]
      refine wpAny_mono (turn i t I oI C oC D m₂ ys nx h tk E' (by omega) hJ hC hx F N off ne) (fun ok s₂ hq => ?_) fun _ _ e => e
      obtain ⟨rfl, h', tk', nw, rfl, F', N', off', hJ'⟩ := hq
      cases hb : test (a + (i : Int)) with
      | true =>
        rw [if_pos rfl]
        refine LCgL.ld_own N' (List.mem_cons_of_mem _ List.mem_cons_self) hC hx ?_ (show (compEnvC scope cl C env).scope.kind = .function from by first | exact hk | (simp [compEnvC, relabel, hk])) (hl C) hd
        refine ⟨h', tk', nw, rfl, F', N', off', trivial, ih (i + 1) _ nw (by omega) hJ' ?_⟩
        rw [List.take_add_one, hkv, List.filter_append]
        have e1 : List.filter test (some (a + (i : Int))).toList = [a + (i : Int)] := by simp [hb]
        rw [e1]
        exact IntsAre.append hy (.cons _ t .nil)
      | false =>
        rw [if_neg (by decide)]
        refine ⟨h', tk', nw, rfl, F', N', off', trivial, ih (i + 1) _ nw (by omega) hJ' ?_⟩
        rw [List.take_add_one, hkv, List.filter_append]
        have e1 : List.filter test (some (a + (i : Int))).toList = [] := by simp [hb]
        rw [e1, List.append_nil]
        exact hy
  exact key n 0 [] news (by omega) h0 (by simpa using IntsAre.nil)
end
end
end
section
open PySem PySem.W PyProof.Rows
section
theorem getD_bd {l : List Int} {b : Int} (hb : 0 < b) (h : ∀ x ∈ l, 0 ≤ x ∧ x < b) (i : Nat) : 0 ≤ l.getD i 0 ∧ l.getD i 0 < b := by
  rw [List.getD_eq_getElem?_getD]
  cases e : l[i]? with
  | none => exact ⟨Int.le_refl 0, hb⟩
  | some x => exact h x (List.mem_of_getElem? e)
theorem app_bd {fs : List Int} {k : Int} (hf : ∀ x ∈ fs, 0 ≤ x ∧ x < 10) (h0 : 0 ≤ k) (h1 : k < 20) (i : Nat) : 0 ≤ (fs ++ [k]).getD i 0 ∧ (fs ++ [k]).getD i 0 < 20 :=
  getD_bd (by decide) (fun x hx => by
    rcases List.mem_append.mp hx with hx | hx
    · have := hf x hx; omega
    · rw [List.mem_singleton.mp hx]; omega) i
theorem getD_last (fs : List Int) (k : Int) : (fs ++ [k]).getD ((fs ++ [k]).length - 1) 0 = k := by
  simp [List.getD_eq_getElem?_getD]
theorem ten_small : Builtin.Range.small 0 10 1 = true := by decide
theorem ten_size : Builtin.Range.rangeSize 0 10 1 = ((10 : Nat) : Int) := by rfl
end
end
section
section
/-- the first statement apart from the rest -/
theorem cut {M : Model} {A : Around} {env : Env} {E : Value → Shared → Prop} {s : Shared} {st : Stmt} {rest : List Stmt} {Q : Flow → Shared → Prop}
    (h : wpAny M A (execs [st] env) (fun f s' => match f with | .next => wpAny M A (execs rest env) Q E s' | f => Q f s') E s) :
    wpAny M A (execs (st :: rest) env) Q E s := wpAny_execs_cons (fun Γ p hΓ => by
  have := h Γ p hΓ
  rw [execs_cons, Sem.wp_bind'] at this
  refine Sem.wp_mono M Γ _ (fun f p' s' h' => ?_) (fun _ _ _ h' => h') _ _ this
  cases f <;> exact h')
theorem frIns {h₀ h : Heap} {L : Addr} {m : Str → Option Value} {x : Str} {v : Value} (F : Fr h₀ L h m) (hx : m x = some v) : Fr h₀ L h (fun z => if z = x then some v else m z) := by
  have e : (fun z => if z = x then some v else m z) = m := funext fun z => by
    by_cases h : z = x
    · simp [h, hx]
    · simp [h]
  rw [e]; exact F
abbrev forB : List Stmt → List Stmt
  | (.For _ _ b _ _) :: _ => b
  | _ => []
end
section
theorem rep_bd {xs : List Int} {f : Int} (h : ∀ x ∈ xs, 0 ≤ x ∧ x < 20) (h0 : 0 ≤ f) (h1 : f < 20) (a b : Nat) : ∀ i : Nat, 0 ≤ (xs.take a ++ [f] ++ xs.drop b).getD i 0 ∧ (xs.take a ++ [f] ++ xs.drop b).getD i 0 < 20 :=
  getD_bd (by decide) fun x hx => by
    rcases List.mem_append.mp hx with hx | hx
    · rcases List.mem_append.mp hx with hx | hx
      · exact h x (List.mem_of_mem_take hx)
      · rw [List.mem_singleton.mp hx]; exact ⟨h0, h1⟩
    · exact h x (List.mem_of_mem_drop hx)
theorem rep_len {xs : List Int} {f : Int} {k : Int} (h0 : 0 ≤ k) (h1 : k < (xs.length : Int)) : (xs.take k.toNat ++ [f] ++ xs.drop (k + 1).toNat).length = xs.length := by
  rw [List.length_append, List.length_append, List.length_take, List.length_drop, List.length_singleton]
  omega
end
section
theorem sw_len (xs : List Int) (i j : Nat) : (swapped xs i j).length = xs.length := by simp [swapped]
theorem sw_bd {xs : List Int} (h : ∀ x ∈ xs, 0 ≤ x ∧ x < 20) (a b : Nat) : ∀ i : Nat, 0 ≤ (swapped xs a b).getD i 0 ∧ (swapped xs a b).getD i 0 < 20 :=
  getD_bd (by decide) fun x hx => by
    have g := getD_bd (b := 20) (by decide) h
    unfold swapped at hx
    rcases List.mem_or_eq_of_mem_set hx with hx | rfl
    · rcases List.mem_or_eq_of_mem_set hx with hx | rfl
      · exact h x hx
      · exact g b
    · exact g a
end
section
theorem pair09 {a b x y : Int} (h1 : x = a ∨ x = b) (h2 : y = a ∨ y = b) (h3 : a = x ∨ a = y) (h4 : b = x ∨ b = y) (h5 : x ≤ y) : (x = 0 ∧ y = 9) ↔ (a = 0 ∧ b = 9) ∨ (a = 9 ∧ b = 0) := by
  constructor
  · rintro ⟨rfl, rfl⟩
    rcases h3 with rfl | rfl
    · exact .inl ⟨rfl, (h2.resolve_left (by decide)).symm⟩
    · exact .inr ⟨rfl, (h1.resolve_left (by decide)).symm⟩
  · rintro (⟨rfl, rfl⟩ | ⟨rfl, rfl⟩)
    · rcases h1 with rfl | rfl
      · exact ⟨rfl, (h4.resolve_left (by decide)).symm⟩
      · exact absurd h5 (by rw [← h3.resolve_left (by decide)]; decide)
    · rcases h1 with rfl | rfl
      · exact absurd h5 (by rw [← h4.resolve_left (by decide)]; decide)
      · exact ⟨rfl, (h3.resolve_left (by decide)).symm⟩
theorem two_sorted {a b : Int} {ns : List Int} (h : ns.Perm [a, b]) (o : List.Pairwise (fun x y => x ≤ y) ns) : ns = [0, 9] ↔ (a = 0 ∧ b = 9) ∨ (a = 9 ∧ b = 0) := by
  have hl := h.length_eq
  match ns, hl with
  | [x, y], _ =>
    have m2 : ∀ {z u v : Int}, z ∈ [u, v] → z = u ∨ z = v := fun h => (List.mem_cons.mp h).imp id List.mem_singleton.mp
    rw [← pair09 (m2 (h.mem_iff.mp List.mem_cons_self)) (m2 (h.mem_iff.mp (List.mem_cons_of_mem _ List.mem_cons_self))) (m2 (h.mem_iff.mpr List.mem_cons_self)) (m2 (h.mem_iff.mpr (List.mem_cons_of_mem _ List.mem_cons_self))) (by simpa using o)]
    simp only [List.cons.injEq, and_true]
theorem bne1 {P : Prop} {z a b : Int} (h : z = 0 ↔ (a = b ∨ P)) (e : a = b) (q : ((z == 0) != (a == b)) = true) : False := by
  have hz : z = 0 := h.mpr (.inl e)
  subst hz; subst e
  simp at q
theorem bne2 {z a b : Int} {ns : List Int} (h : z = 0 ↔ (a = b ∨ (a = 0 ∧ b = 9) ∨ (a = 9 ∧ b = 0))) (e : a ≠ b) (p : ns.Perm [a, b]) (o : List.Pairwise (fun x y => x ≤ y) ns) (q : ((z == 0) != decide (ns = [0, 9])) = true) : False := by
  have hs := two_sorted p o
  have hz : z = 0 ↔ ns = [0, 9] := by
    rw [hs, h]
    exact ⟨fun x => x.resolve_left e, .inr⟩
  by_cases hn : ns = [0, 9]
  · rw [hz.mpr hn, decide_eq_true hn] at q
    simp at q
  · rw [decide_eq_false hn] at q
    have : z ≠ 0 := fun x => hn (hz.mp x)
    simp [this] at q
theorem bne3 {z a b : Int} (h : z = 0 ↔ a = b) (q : ((z == 0) != (a == b)) = true) : False := by
  by_cases e : a = b
  · exact bne1 (P := False) (by rw [h]; simp) e q
  · have : z ≠ 0 := fun x => e (h.mp x)
    rw [beq_false_of_ne this, beq_false_of_ne e] at q
    exact absurd q (by decide)
end
section
theorem rng_small1 {n : Nat} (h : n ≤ 12) : Builtin.Range.small 1 (n : Int) 1 = true := small_one (by omega) (by omega) (by omega) (by omega)
theorem rng_smallk {k : Int} (h0 : 0 ≤ k) (h : k ≤ 12) : Builtin.Range.small 0 k 1 = true := small_one (by omega) (by omega) (by omega) (by omega)
end
section
/-- kept out of arithmetic's sight -/
structure Hid (p : Prop) : Prop where
  out : p
end
section
theorem sum_bd {xs : List Int} (h : ∀ x ∈ xs, 0 ≤ x ∧ x < 20) : 0 ≤ xs.sum ∧ xs.sum ≤ 20 * xs.length := by
  induction xs with
  | nil => simp
  | cons a r ih =>
    have h1 := ih fun x hx => h x (List.mem_cons_of_mem _ hx)
    have h2 := h a List.mem_cons_self
    rw [List.sum_cons, List.length_cons]
    omega
theorem sum_mul_bd {xs : List Int} (h : ∀ x ∈ xs, 0 ≤ x ∧ x < 20) (hl : xs.length ≤ 9) : 0 ≤ xs.sum * ((xs.length : Int) + 1) ∧ xs.sum * ((xs.length : Int) + 1) < 4000 := by
  have h1 := sum_bd h
  constructor
  · exact Int.mul_nonneg h1.1 (by omega)
  · have := Int.mul_le_mul (show xs.sum ≤ 180 by omega) (show (xs.length : Int) + 1 ≤ 10 by omega) (by omega) (by decide : (0 : Int) ≤ 180)
    omega
theorem places_bd (ns : List Int) : 0 ≤ places ns ∧ places ns < 11 := by
  unfold places
  omega
end
end
section
section
theorem stA0 : ∀ {w : World} {mean : ExcName → Option Value} {mg mb : Str → Option Value} {g : Heap} {L fa : Addr} {cd : Value} {s : Shared} {Q : Flow → Shared → Prop} {R : Result → Shared → Prop} {oc : Obj} {ls : Addr} {vs : List Value} {ns : List Int},
      (Below callerA g [] g) →
      (Fr g L s.heap (fun y => if y = Str.ofString "script" then some (.ref ls) else none)) →
      ((hd.heap_39 w.params).In g) →
      (News g L s.heap [(L + 1, oc), (37, tabObj #[]), (30, tabObj #[])]) →
      (Top topProg LL mean mg mb g) →
      (CodeHd g 41 37) →
      (CodeHd g 34 30) →
      (oc.data = .cell none) →
      (@LT.lt Nat _ 37 L) →
      (@LT.lt Nat _ 30 L) →
      (g.IsList ls vs.toArray) →
      (IntsAre vs ns) →
      (ns.length ≤ 63) →
      (∀ (lf : Addr) (vf : List Value) (cf : Nat) (oc' : Obj) (fs : List Int) m' h' tk', Fr g L h' m' → News g L h' [(lf, W.listOf vf.toArray cf), (L + 1, oc'), (37, tabObj #[]), (30, tabObj #[])] → oc'.data = .cell (some (.ref lf)) → IntsAre vf fs → 1 ≤ fs.length → fs.length ≤ 8 → (∀ x ∈ fs, 0 ≤ x ∧ x < 10) → (lf ≠ 37 ∧ lf ≠ 30) →
        wpP (model PySem.Challenge.rw_gs0003_01.row.prog w) (lawA (lawE L fa cd)) (execs (lawB.drop 1) (lawE L fa cd)) Q (fun e s' => wpAny (model PySem.Challenge.rw_gs0003_01.row.prog w) (lawA (lawE L fa cd)) (leaving (lawE L fa cd) e) (fun _ s'' => R (.error e) s'') (fun e' s'' => R (.error e') s'') s') { s with heap := h', toks := tk' }) →
      wpP (model PySem.Challenge.rw_gs0003_01.row.prog w) (lawA (lawE L fa cd)) (execs (lawB) (lawE L fa cd)) Q (fun e s' => wpAny (model PySem.Challenge.rw_gs0003_01.row.prog w) (lawA (lawE L fa cd)) (leaving (lawE L fa cd) e) (fun _ s'' => R (.error e) s'') (fun e' s'' => R (.error e') s'') s') s := by
  k_fill
  w_top off
  k_with_none
  k_with "enter" => (first | (refine' code_defL ?k1 ?k2 ?k3 ?k4 ?k5 ?kA ?kF ?kK ?k6 ?k7 ?k8 ?k9 ?kB ?_ ?c2 ?c3 ?c4 ?c5; (case kA => exact rfl); (case kF => exact rfl); (case kK => assumption); (case k1 => k_asm); (case k2 => k_asm); (case k3 => k_asm); (case k4 => k_asm); (case k5 => k_asm); (case k6 => k_is); (case k7 => k_is); (case k8 => k_room); (case k9 => exact BindsTo.of_eq rfl); (case c5 => decide); (case kB => exact locs rfl); (case c2 => exact rfl); (case c3 => exact rfl); (case c4 => exact rfl); k_whole; intro g' L' h' FG' F' N' B' X' T' l1; (try k_lt l1); (try dsimp only); (try k_lift B'); (try k_fold)) | (refine' code_defC ?k1 ?k2 ?k3 ?k4 ?k5 ?kA ?kF ?kK ?k6 ?k7 ?k8 ?k9 ?kB ?kD ?_ ?c2 ?c3 ?c4; (case kA => exact rfl); (case kF => exact rfl); (case kK => assumption); (case k1 => k_asm); (case k2 => k_asm); (case k3 => k_asm); (case k4 => k_asm); (case k5 => k_asm); (case k6 => k_is); (case k7 => k_is); (case k8 => k_room); (case k9 => exact BindsTo.of_eq rfl); (case kB => exact rfl); (case kD => decide +kernel); (case c2 => exact rfl); (case c3 => exact rfl); (case c4 => exact rfl); k_whole; intro g' L' h' tk' cells' FG' F' N' Y' B' X' T' l1; (try k_lt l1); k_cells Y'; (try simp only [List.cons_append, List.nil_append] at N'); (try dsimp only); (try k_lift B'); (try k_fold)))
  k_with "call builtin:divmod" => (k_here; k_dflt (refine' divmod_L ?k1 ?k2 ?k3 ?k4 ?_; (case k1 => k_asm); (case k2 => k_asm); (case k3 => omega); (case k4 => omega); k_whole); intro D' h' F' N' l1; (try k_lt l1); (try k_sweep))
  intro w mean mg mb g L fa cd s Q R oc ls vs ns B F X N T C1 C2 hoc l37 l30 hL hi hlen hret
  delta lawB lawE lawD getD
  dsimp only [List.drop]
  refine wpP_head ?_
  repeat' ((fail_if_success (with_reducible show wpAny _ _ (storeName _ _ (Value.ref _)) _ _ _)); (first | (k_unfold; (try dsimp only)) | (k_end; wrow_close) | walk1 | (dsimp only; walk1) | (leave1; walk_say "STEP leave1"; try dsimp only) | fail "no step"))
  rename News _ _ _ _ => lN
  rename Fr _ _ _ _ => lF
  with_reducible rename NewPlain _ _ _ _ => gnP
  rename CarriedAll _ _ => gnC
  obtain ⟨gnN, gnL, gnA⟩ := gn_enter gnP lF lN (by assumption)
  have gnI := gn_ints gnP gnC (fun _ => rfl)
  clear gnP gnC lN
  simp only [GnNe, and_true] at gnA
  k_steps
  refine' hret _ _ _ _ _ _ _ _ ?zF ?zN ?zd gnI ?z1 ?z2 ?z3 ?z4
  case zF => assumption
  case zN => exact cb_drop (by assumption) (by kcj_all)
  case zd => assumption
  case z4 => exact ⟨gnA.2.2.2.2.1.symm, gnA.2.2.2.2.2.symm⟩
  case z1 => (rw [List.length_map, List.length_take, List.length_append, List.length_singleton]; split <;> (try split) <;> omega)
  case z2 => (rw [List.length_map, List.length_take, List.length_append, List.length_singleton]; split <;> (try split) <;> omega)
  case z3 =>
    intro x hx
    obtain ⟨y, _, rfl⟩ := List.mem_map.mp hx
    exact ⟨fmod_lo y (by decide), fmod_hi y (by decide)⟩
end
end
section
section
theorem stA1 : ∀ {w : World} {mean : ExcName → Option Value} {mg mb : Str → Option Value} {g : Heap} {L fa : Addr} {cd : Value} {s : Shared} {Q : Flow → Shared → Prop} {R : Result → Shared → Prop} {oc : Obj} {lf : Addr} {vf : List Value} {cf : Nat} {fs : List Int} {m : Str → Option Value},
      (Below callerA g [] g) →
      (Fr g L s.heap m) →
      ((hd.heap_39 w.params).In g) →
      (News g L s.heap [(lf, W.listOf vf.toArray cf), (L + 1, oc), (37, tabObj #[]), (30, tabObj #[])]) →
      (Top topProg LL mean mg mb g) →
      (CodeHd g 41 37) →
      (CodeHd g 34 30) →
      (oc.data = .cell (some (.ref lf))) →
      (IntsAre vf fs) →
      (1 ≤ fs.length) →
      (fs.length ≤ 8) →
      (∀ x ∈ fs, 0 ≤ x ∧ x < 10) →
      (lf ≠ 37 ∧ lf ≠ 30) →
      (@LT.lt Nat _ 37 L) →
      (@LT.lt Nat _ 30 L) →
      (∀ (l1 : Addr) (v1 : List Value) (c1 c2 : Addr) (oc1 oc2 : Obj) (vs1 vs2 : Array Value) (tk1 tk2 : Tok) h' tk', Fr g L h' (fun z => if z = Str.ofString "first" then some (.ref l1) else m z) → News g L h' ((l1, LCg.lst v1) :: (lf, W.listOf vf.toArray cf) :: (L + 1, oc) :: [(37, tab2 c2), (c2, oc2), (30, tab1 c1), (c1, oc1)]) → Tabs c1 c2 oc1 oc2 vs1 vs2 tk1 tk2 → IntsAre v1 ((rangeKs 0 10).filter fun k => decide (luhn (fs ++ [k]) = 0)) →
        wpP (model PySem.Challenge.rw_gs0003_01.row.prog w) (lawA (lawE L fa cd)) (execs (lawB.drop 2) (lawE L fa cd)) Q (fun e s' => wpAny (model PySem.Challenge.rw_gs0003_01.row.prog w) (lawA (lawE L fa cd)) (leaving (lawE L fa cd) e) (fun _ s'' => R (.error e) s'') (fun e' s'' => R (.error e') s'') s') { s with heap := h', toks := tk' }) →
      wpP (model PySem.Challenge.rw_gs0003_01.row.prog w) (lawA (lawE L fa cd)) (execs (lawB.drop 1) (lawE L fa cd)) Q (fun e s' => wpAny (model PySem.Challenge.rw_gs0003_01.row.prog w) (lawA (lawE L fa cd)) (leaving (lawE L fa cd) e) (fun _ s'' => R (.error e) s'') (fun e' s'' => R (.error e') s'') s') s := by
  k_fill
  w_top off
  k_with_none
  k_with "enter" => (first | (refine' code_defL ?k1 ?k2 ?k3 ?k4 ?k5 ?kA ?kF ?kK ?k6 ?k7 ?k8 ?k9 ?kB ?_ ?c2 ?c3 ?c4 ?c5; (case kA => exact rfl); (case kF => exact rfl); (case kK => assumption); (case k1 => k_asm); (case k2 => k_asm); (case k3 => k_asm); (case k4 => k_asm); (case k5 => k_asm); (case k6 => k_is); (case k7 => k_is); (case k8 => k_room); (case k9 => exact BindsTo.of_eq rfl); (case c5 => decide); (case kB => exact locs rfl); (case c2 => exact rfl); (case c3 => exact rfl); (case c4 => exact rfl); k_whole; intro g' L' h' FG' F' N' B' X' T' l1; (try k_lt l1); (try dsimp only); (try k_lift B'); (try k_fold)) | (refine' code_defC ?k1 ?k2 ?k3 ?k4 ?k5 ?kA ?kF ?kK ?k6 ?k7 ?k8 ?k9 ?kB ?kD ?_ ?c2 ?c3 ?c4; (case kA => exact rfl); (case kF => exact rfl); (case kK => assumption); (case k1 => k_asm); (case k2 => k_asm); (case k3 => k_asm); (case k4 => k_asm); (case k5 => k_asm); (case k6 => k_is); (case k7 => k_is); (case k8 => k_room); (case k9 => exact BindsTo.of_eq rfl); (case kB => exact rfl); (case kD => decide +kernel); (case c2 => exact rfl); (case c3 => exact rfl); (case c4 => exact rfl); k_whole; intro g' L' h' tk' cells' FG' F' N' Y' B' X' T' l1; (try k_lt l1); k_cells Y'; (try simp only [List.cons_append, List.nil_append] at N'); (try dsimp only); (try k_lift B'); (try k_fold)))
  k_with "call builtin:divmod" => (k_here; k_dflt (refine' divmod_L ?k1 ?k2 ?k3 ?k4 ?_; (case k1 => k_asm); (case k2 => k_asm); (case k3 => omega); (case k4 => omega); k_whole); intro D' h' F' N' l1; (try k_lt l1); (try k_sweep))
  k_with "eval Name" => (k_here; (with_reducible show wpAny _ _ (eval (Expr.Name _ _) (compEnvC _ _ _ _)) _ _ _); k_dflt (first | (refine' LCgL.ld_built ?a1 ?a2 ?a3 ?a4 ?a5 ?a6 ?_; (case a1 => k_asm); (case a2 => k_asm); (case a3 => k_asm); (case a4 => k_is); (case a5 => boot_by_name); (case a6 => decide); k_whole)))
  k_with "eval Name" => (k_here; (with_reducible show wpAny _ _ (eval (Expr.Name _ _) (compEnvC _ _ _ _)) _ _ _); k_dflt (first | (refine' lcf_cell ?N ?c ?m ?d ?_ ?a ?b; (case a => rfl); (case b => rfl); (case N => k_asm); (case c => rfl); (case m => k_mem); (case d => k_asm); k_whole)))
  intro w mean mg mb g L fa cd s Q R oc lf vf cf fs m B F X N T C1 C2 hoc hi hf1 hf8 hfr hlf l37 l30 hret
  delta lawB lawE lawD getD
  dsimp only [List.drop]
  refine wpP_head (wpAny_execs_cons ?_)
  refine LCt.Assign_ListComp_T (F₀ := F) (by rfl) (by with_unfolding_all rfl) (by with_unfolding_all rfl) (by decide) (by rfl) (by decide) (by rfl) (by rfl) (by rfl) ?_
  repeat' ((fail_if_success (with_reducible show LCt.CompSrcT _ _ _ _ _ _ _ _ _ _ _ _ _ _ _)); (first | (k_unfold; (try dsimp only)) | (k_end; wrow_close) | walk1 | (dsimp only; walk1) | (leave1; walk_say "STEP leave1"; try dsimp only) | fail "no step"))
  rename Fr _ _ _ _ => lF
  rename News _ _ _ _ => lN
  rename IsRange _ _ _ _ _ _ _ _ => rgX
  refine LCt.CompSrcT.range rfl lF lN rgX (by decide) (by rfl) (n := 10) (by rw [PySem.sizeLine_eq]; decide) (fun g9 => ?_)
  clear lF lN rgX
  refine filt (fun k => decide (luhn (fs ++ [k]) = 0)) (fun i nx => if i = 0 then nx = [(lf, W.listOf vf.toArray cf), (L + 1, oc), (37, tabObj #[]), (30, tabObj #[])] else ∃ c1 c2 oc1 oc2 vs1 vs2 tk1 tk2, Tabs c1 c2 oc1 oc2 vs1 vs2 tk1 tk2 ∧ nx = [(lf, W.listOf vf.toArray cf), (L + 1, oc), (37, tab2 c2), (c2, oc2), (30, tab1 c1), (c1, oc1)]) rfl (fun C => rfl) (by decide) rfl ?_ ?_
  · intro i t I oI C oC D m₂ ys nx h tk E' hi9 hJ hC hx F' N' hoff hne
    cases i with
    | zero =>
      rw [if_pos rfl] at hJ
      subst hJ
      rw [show (0 : Int) + ((0 : Nat) : Int) = 0 from rfl] at hx ⊢
      repeat' ((fail_if_success (with_reducible show wpAny _ _ (call (Value.ref 70) [Value.ref _]) _ _ _)); (first | (k_unfold; (try dsimp only)) | (k_end; wrow_close) | walk1 | (dsimp only; walk1) | (leave1; walk_say "STEP leave1"; try dsimp only) | fail "no step"))
      rename News _ _ _ _ => lN
      rename Fr _ _ _ _ => lF
      rename IntsAre _ _ => hI
      rename (_ ∧ _ ∧ _ ∧ _ ∧ _ ∧ _ ∧ _) => lt9
      have off9 := hoff.mem
      refine' dbl0 (rest := [(I, oI), (C, oC), (D, LCg.lst ys), (lf, W.listOf vf.toArray cf), (L + 1, oc)]) B lF X (cb_drop lN ?zN) T ?zk C1 C2 ?zhd ?zhu hI ?zl ?zp (app_bd hfr (by decide) (by decide)) (getD_last fs 0) ?zr ?z37 ?z30 ?_
      case zN => kcj_all
      case zk => rfl
      case zhd => cb_room
      case zhu => cb_units
      case zl => (rw [List.length_append, List.length_singleton]; omega)
      case zp => (rw [List.length_append, List.length_singleton]; omega)
      case z37 => omega
      case z30 => omega
      case zr =>
        have q1 := off9 (37, tabObj #[]) (List.mem_cons_of_mem _ (List.mem_cons_of_mem _ List.mem_cons_self))
        have q2 := off9 (30, tabObj #[]) (List.mem_cons_of_mem _ (List.mem_cons_of_mem _ (List.mem_cons_of_mem _ List.mem_cons_self)))
        intro p hp
        simp only [List.mem_cons, List.not_mem_nil, or_false] at hp
        rcases hp with rfl | rfl | rfl | rfl | rfl
        · exact ⟨Nat.ne_of_lt (by dsimp only; omega), q1.1.symm, q2.1.symm⟩
        · exact ⟨Nat.ne_of_lt (by dsimp only; omega), q1.2.1.symm, q2.2.1.symm⟩
        · exact ⟨Nat.ne_of_lt (by dsimp only; omega), q1.2.2.symm, q2.2.2.symm⟩
        · exact ⟨Nat.ne_of_lt (by dsimp only; omega), hlf.1, hlf.2⟩
        · exact ⟨Nat.ne_of_lt (by dsimp only; omega), Nat.ne_of_gt (by dsimp only; omega), Nat.ne_of_gt (by dsimp only; omega)⟩
      intro t9 c1 c2 oc1 oc2 vs1 vs2 tk1 tk2 h9 tk9 F9 N9 TB hfr9 hl1 hl2
      k_steps
      refine ⟨by rw [Bool.eq_iff_iff]; simp, h9, _, [(lf, W.listOf vf.toArray cf), (L + 1, oc), (37, tab2 c2), (c2, oc2), (30, tab1 c1), (c1, oc1)], rfl, F9, cb_drop N9 (by kcj_all), LCg.Off3.of fun p hp => ?_, ?_⟩
      · have f1 := hfr9 _ List.mem_cons_self
        have f2 := hfr9 _ (List.mem_cons_of_mem _ List.mem_cons_self)
        have f3 := hfr9 _ (List.mem_cons_of_mem _ (List.mem_cons_of_mem _ List.mem_cons_self))
        have q0 := off9 (lf, W.listOf vf.toArray cf) List.mem_cons_self
        have q3 := off9 (L + 1, oc) (List.mem_cons_of_mem _ List.mem_cons_self)
        have q1 := off9 (37, tabObj #[]) (List.mem_cons_of_mem _ (List.mem_cons_of_mem _ List.mem_cons_self))
        have q2 := off9 (30, tabObj #[]) (List.mem_cons_of_mem _ (List.mem_cons_of_mem _ (List.mem_cons_of_mem _ List.mem_cons_self)))
        simp only [List.mem_cons, List.not_mem_nil, or_false] at hp
        rcases hp with rfl | rfl | rfl | rfl | rfl | rfl
        · exact q0
        · exact q3
        · exact q1
        · exact ⟨f1.2.symm, f2.2.symm, f3.2.symm⟩
        · exact q2
        · exact ⟨f1.1.symm, f2.1.symm, f3.1.symm⟩
      · dsimp only
        rw [if_neg (Nat.succ_ne_zero _)]
        exact ⟨_, _, _, _, _, _, _, _, TB, rfl⟩
    | succ i =>
      rw [if_neg (Nat.succ_ne_zero _)] at hJ
      obtain ⟨c1, c2, oc1, oc2, vs1, vs2, tk1, tk2, TB, rfl⟩ := hJ
      obtain ⟨d1, v1, d2, v2, _⟩ := id TB
      obtain ⟨k, hk9⟩ : ∃ k : Int, k = 0 + ((i + 1 : Nat) : Int) := ⟨_, rfl⟩
      rw [← hk9] at hx ⊢
      repeat' ((fail_if_success (with_reducible show wpAny _ _ (call (Value.ref 70) [Value.ref _]) _ _ _)); (first | (k_unfold; (try dsimp only)) | (k_end; wrow_close) | walk1 | (dsimp only; walk1) | (leave1; walk_say "STEP leave1"; try dsimp only) | fail "no step"))
      rename News _ _ _ _ => lN
      rename Fr _ _ _ _ => lF
      rename IntsAre _ _ => hI
      refine' dbl B lF X lN T ?zk C1 C2 ?ze1 ?ze2 ?ze3 ?ze4 d1 v1 d2 v2 ?zg ?zhd ?zhu hI ?zl (app_bd hfr (by omega) (by omega)) ?_
      case zk => rfl
      case ze1 => (repeat (first | exact List.Mem.head _ | apply List.Mem.tail))
      case ze2 => (repeat (first | exact List.Mem.head _ | apply List.Mem.tail))
      case ze3 => (repeat (first | exact List.Mem.head _ | apply List.Mem.tail))
      case ze4 => (repeat (first | exact List.Mem.head _ | apply List.Mem.tail))
      case zg => (repeat (first | exact List.Mem.head _ | apply List.Mem.tail))
      case zhd => cb_room
      case zhu => cb_units
      case zl => (rw [List.length_append, List.length_singleton]; omega)
      intro t9 h9 tk9 F9 N9
      k_steps
      refine ⟨by rw [Bool.eq_iff_iff]; simp, h9, _, [(lf, W.listOf vf.toArray cf), (L + 1, oc), (37, tab2 c2), (c2, oc2), (30, tab1 c1), (c1, oc1)], rfl, F9, cb_drop N9 (by kcj_all), hoff, ?_⟩
      dsimp only
      rw [if_neg (Nat.succ_ne_zero _)]
      exact ⟨_, _, _, _, _, _, _, _, TB, rfl⟩
  · intro ys nx hJ hy
    rw [if_neg (by decide)] at hJ
    obtain ⟨c1, c2, oc1, oc2, vs1, vs2, tk1, tk2, TB, rfl⟩ := hJ
    intro D h tk F9 N9 off9
    exact wpAny_pure (hret D ys c1 c2 oc1 oc2 vs1 vs2 tk1 tk2 h tk F9 N9 TB hy)
end
end
section
section
theorem stA2 : ∀ {w : World} {mean : ExcName → Option Value} {mg mb : Str → Option Value} {g : Heap} {L fa : Addr} {cd : Value} {s : Shared} {Q : Flow → Shared → Prop} {R : Result → Shared → Prop} {oc : Obj} {lf : Addr} {vf : List Value} {cf : Nat} {fs : List Int} {m : Str → Option Value} {l1 : Addr} {v1 : List Value} {c1 c2 : Addr} {oc1 oc2 : Obj} {vs1 vs2 : Array Value} {tk1 tk2 : Tok},
      (Below callerA g [] g) →
      (Fr g L s.heap m) →
      ((hd.heap_39 w.params).In g) →
      (News g L s.heap ((l1, LCg.lst v1) :: (lf, W.listOf vf.toArray cf) :: (L + 1, oc) :: [(37, tab2 c2), (c2, oc2), (30, tab1 c1), (c1, oc1)])) →
      (Top topProg LL mean mg mb g) →
      (CodeHd g 41 37) →
      (CodeHd g 34 30) →
      (oc.data = .cell (some (.ref lf))) →
      (IntsAre vf fs) →
      (1 ≤ fs.length) →
      (fs.length ≤ 8) →
      (∀ x ∈ fs, 0 ≤ x ∧ x < 10) →
      (lf ≠ 37 ∧ lf ≠ 30) →
      (@LT.lt Nat _ 37 L) →
      (@LT.lt Nat _ 30 L) →
      (Tabs c1 c2 oc1 oc2 vs1 vs2 tk1 tk2) →
      (∀ (l2 : Addr) (v2 : List Value) h' tk', Fr g L h' (fun z => if z = Str.ofString "second" then some (.ref l2) else m z) → News g L h' ((l2, LCg.lst v2) :: ((l1, LCg.lst v1) :: (lf, W.listOf vf.toArray cf) :: (L + 1, oc) :: [(37, tab2 c2), (c2, oc2), (30, tab1 c1), (c1, oc1)])) → IntsAre v2 ((rangeKs 0 11).filter fun k => decide (places (fs ++ [k]) = 0)) →
        wpP (model PySem.Challenge.rw_gs0003_01.row.prog w) (lawA (lawE L fa cd)) (execs (lawB.drop 3) (lawE L fa cd)) Q (fun e s' => wpAny (model PySem.Challenge.rw_gs0003_01.row.prog w) (lawA (lawE L fa cd)) (leaving (lawE L fa cd) e) (fun _ s'' => R (.error e) s'') (fun e' s'' => R (.error e') s'') s') { s with heap := h', toks := tk' }) →
      wpP (model PySem.Challenge.rw_gs0003_01.row.prog w) (lawA (lawE L fa cd)) (execs (lawB.drop 2) (lawE L fa cd)) Q (fun e s' => wpAny (model PySem.Challenge.rw_gs0003_01.row.prog w) (lawA (lawE L fa cd)) (leaving (lawE L fa cd) e) (fun _ s'' => R (.error e) s'') (fun e' s'' => R (.error e') s'') s') s := by
  k_fill
  w_top off
  k_with_none
  k_with "enter" => (first | (refine' code_defL ?k1 ?k2 ?k3 ?k4 ?k5 ?kA ?kF ?kK ?k6 ?k7 ?k8 ?k9 ?kB ?_ ?c2 ?c3 ?c4 ?c5; (case kA => exact rfl); (case kF => exact rfl); (case kK => assumption); (case k1 => k_asm); (case k2 => k_asm); (case k3 => k_asm); (case k4 => k_asm); (case k5 => k_asm); (case k6 => k_is); (case k7 => k_is); (case k8 => k_room); (case k9 => exact BindsTo.of_eq rfl); (case c5 => decide); (case kB => exact locs rfl); (case c2 => exact rfl); (case c3 => exact rfl); (case c4 => exact rfl); k_whole; intro g' L' h' FG' F' N' B' X' T' l1; (try k_lt l1); (try dsimp only); (try k_lift B'); (try k_fold)) | (refine' code_defC ?k1 ?k2 ?k3 ?k4 ?k5 ?kA ?kF ?kK ?k6 ?k7 ?k8 ?k9 ?kB ?kD ?_ ?c2 ?c3 ?c4; (case kA => exact rfl); (case kF => exact rfl); (case kK => assumption); (case k1 => k_asm); (case k2 => k_asm); (case k3 => k_asm); (case k4 => k_asm); (case k5 => k_asm); (case k6 => k_is); (case k7 => k_is); (case k8 => k_room); (case k9 => exact BindsTo.of_eq rfl); (case kB => exact rfl); (case kD => decide +kernel); (case c2 => exact rfl); (case c3 => exact rfl); (case c4 => exact rfl); k_whole; intro g' L' h' tk' cells' FG' F' N' Y' B' X' T' l1; (try k_lt l1); k_cells Y'; (try simp only [List.cons_append, List.nil_append] at N'); (try dsimp only); (try k_lift B'); (try k_fold)))
  k_with "call builtin:divmod" => (k_here; k_dflt (refine' divmod_L ?k1 ?k2 ?k3 ?k4 ?_; (case k1 => k_asm); (case k2 => k_asm); (case k3 => omega); (case k4 => omega); k_whole); intro D' h' F' N' l1; (try k_lt l1); (try k_sweep))
  k_with "eval Name" => (k_here; (with_reducible show wpAny _ _ (eval (Expr.Name _ _) (compEnvC _ _ _ _)) _ _ _); k_dflt (first | (refine' LCgL.ld_built ?a1 ?a2 ?a3 ?a4 ?a5 ?a6 ?_; (case a1 => k_asm); (case a2 => k_asm); (case a3 => k_asm); (case a4 => k_is); (case a5 => boot_by_name); (case a6 => decide); k_whole)))
  k_with "eval Name" => (k_here; (with_reducible show wpAny _ _ (eval (Expr.Name _ _) (compEnvC _ _ _ _)) _ _ _); k_dflt (first | (refine' lcf_cell ?N ?c ?m ?d ?_ ?a ?b; (case a => rfl); (case b => rfl); (case N => k_asm); (case c => rfl); (case m => k_mem); (case d => k_asm); k_whole)))
  intro w mean mg mb g L fa cd s Q R oc lf vf cf fs m l1 v1 c1 c2 oc1 oc2 vs1 vs2 tk1 tk2 B F X N T C1 C2 hoc hi hf1 hf8 hfr hlf l37 l30 TB hret
  delta lawB lawE lawD getD
  dsimp only [List.drop]
  obtain ⟨d1, v1', d2, v2', _⟩ := id TB
  refine wpP_head (wpAny_execs_cons ?_)
  refine LCt.Assign_ListComp_T (F₀ := F) (by rfl) (by with_unfolding_all rfl) (by with_unfolding_all rfl) (by decide) (by rfl) (by decide) (by rfl) (by rfl) (by rfl) ?_
  repeat' ((fail_if_success (with_reducible show LCt.CompSrcT _ _ _ _ _ _ _ _ _ _ _ _ _ _ _)); (first | (k_unfold; (try dsimp only)) | (k_end; wrow_close) | walk1 | (dsimp only; walk1) | (leave1; walk_say "STEP leave1"; try dsimp only) | fail "no step"))
  rename Fr _ _ _ _ => lF
  rename News _ _ _ _ => lN
  rename IsRange _ _ _ _ _ _ _ _ => rgX
  refine LCt.CompSrcT.range rfl lF lN rgX (by decide) (by rfl) (n := 11) (by rw [PySem.sizeLine_eq]; decide) (fun g9 => ?_)
  clear lF lN rgX
  refine filt (fun k => decide (places (fs ++ [k]) = 0)) (fun i nx => nx = ((l1, LCg.lst v1) :: (lf, W.listOf vf.toArray cf) :: (L + 1, oc) :: [(37, tab2 c2), (c2, oc2), (30, tab1 c1), (c1, oc1)])) rfl (fun C => rfl) (by decide) rfl ?_ ?_
  · intro i t I oI C oC D m₂ ys nx h tk E' hi9 hJ hC hx F' N' hoff hne
    subst hJ
    obtain ⟨k, hk9⟩ : ∃ k : Int, k = 0 + (i : Int) := ⟨_, rfl⟩
    rw [← hk9] at hx ⊢
    repeat' ((fail_if_success (with_reducible show wpAny _ _ (call (Value.ref 75) [Value.ref _]) _ _ _)); (first | (k_unfold; (try dsimp only)) | (k_end; wrow_close) | walk1 | (dsimp only; walk1) | (leave1; walk_say "STEP leave1"; try dsimp only) | fail "no step"))
    rename News _ _ _ _ => lN
    rename Fr _ _ _ _ => lF
    rename IntsAre _ _ => hI
    refine' plc B lF X lN T ?zk C1 C2 ?ze1 ?ze2 ?ze3 ?ze4 d1 v1' d2 v2' ?zg ?zhd ?zhu hI ?zl (app_bd hfr (by omega) (by omega)) ?_
    case zk => rfl
    case ze1 => (repeat (first | exact List.Mem.head _ | apply List.Mem.tail))
    case ze2 => (repeat (first | exact List.Mem.head _ | apply List.Mem.tail))
    case ze3 => (repeat (first | exact List.Mem.head _ | apply List.Mem.tail))
    case ze4 => (repeat (first | exact List.Mem.head _ | apply List.Mem.tail))
    case zg => (repeat (first | exact List.Mem.head _ | apply List.Mem.tail))
    case zhd => cb_room
    case zhu => cb_units
    case zl => (rw [List.length_append, List.length_singleton]; omega)
    intro t9 h9 tk9 F9 N9
    k_steps
    exact ⟨by rw [Bool.eq_iff_iff]; simp, h9, _, ((l1, LCg.lst v1) :: (lf, W.listOf vf.toArray cf) :: (L + 1, oc) :: [(37, tab2 c2), (c2, oc2), (30, tab1 c1), (c1, oc1)]), rfl, F9, cb_drop N9 (by kcj_all), hoff, rfl⟩
  · intro ys nx hJ hy
    subst hJ
    intro D h tk F9 N9 off9
    exact wpAny_pure (hret D ys h tk F9 N9 hy)
end
end
section
section
theorem stB : ∀ {w : World} {mean : ExcName → Option Value} {mg mb : Str → Option Value} {g : Heap} {L fa : Addr} {cd : Value} {s : Shared} {Q : Flow → Shared → Prop} {R : Result → Shared → Prop} {oc : Obj} {lf : Addr} {vf : List Value} {cf : Nat} {fs : List Int} {m : Str → Option Value} {l1 l2 : Addr} {v1 v2 : List Value} {ka kb : Int} {c1 c2 : Addr} {oc1 oc2 : Obj} {vs1 vs2 : Array Value} {tk1 tk2 : Tok},
      (Below callerA g [] g) →
      (Fr g L s.heap (fun z => if z = Str.ofString "second" then some (.ref l2) else if z = Str.ofString "first" then some (.ref l1) else m z)) →
      ((hd.heap_39 w.params).In g) →
      (News g L s.heap ((l2, LCg.lst v2) :: (l1, LCg.lst v1) :: (lf, W.listOf vf.toArray cf) :: (L + 1, oc) :: [(37, tab2 c2), (c2, oc2), (30, tab1 c1), (c1, oc1)])) →
      (Top topProg LL mean mg mb g) →
      (CodeHd g 41 37) →
      (CodeHd g 34 30) →
      (oc.data = .cell (some (.ref lf))) →
      (IntsAre vf fs) →
      (1 ≤ fs.length) →
      (fs.length ≤ 8) →
      (∀ x ∈ fs, 0 ≤ x ∧ x < 10) →
      (lf ≠ 37 ∧ lf ≠ 30) →
      (@LT.lt Nat _ 37 L) →
      (@LT.lt Nat _ 30 L) →
      (IntsAre v1 [ka]) →
      (IntsAre v2 [kb]) →
      (∀ (lo lt : Addr) (vo vt : List Value) (co ct : Nat) m' h' tk', Fr g L h' m' → m' (Str.ofString "one") = some (.ref lo) → m' (Str.ofString "other") = some (.ref lt) → News g L h' ((lt, W.listOf vt.toArray ct) :: (lo, W.listOf vo.toArray co) :: [(37, tab2 c2), (c2, oc2), (30, tab1 c1), (c1, oc1)]) → IntsAre vo (fs ++ [ka]) → IntsAre vt (fs ++ [kb]) →
        wpP (model PySem.Challenge.rw_gs0003_01.row.prog w) (lawA (lawE L fa cd)) (execs (lawB.drop 5) (lawE L fa cd)) Q (fun e s' => wpAny (model PySem.Challenge.rw_gs0003_01.row.prog w) (lawA (lawE L fa cd)) (leaving (lawE L fa cd) e) (fun _ s'' => R (.error e) s'') (fun e' s'' => R (.error e') s'') s') { s with heap := h', toks := tk' }) →
      wpP (model PySem.Challenge.rw_gs0003_01.row.prog w) (lawA (lawE L fa cd)) (execs (lawB.drop 3) (lawE L fa cd)) Q (fun e s' => wpAny (model PySem.Challenge.rw_gs0003_01.row.prog w) (lawA (lawE L fa cd)) (leaving (lawE L fa cd) e) (fun _ s'' => R (.error e) s'') (fun e' s'' => R (.error e') s'') s') s := by
  k_fill
  w_top off
  k_with_none
  k_with "enter" => (first | (refine' code_defL ?k1 ?k2 ?k3 ?k4 ?k5 ?kA ?kF ?kK ?k6 ?k7 ?k8 ?k9 ?kB ?_ ?c2 ?c3 ?c4 ?c5; (case kA => exact rfl); (case kF => exact rfl); (case kK => assumption); (case k1 => k_asm); (case k2 => k_asm); (case k3 => k_asm); (case k4 => k_asm); (case k5 => k_asm); (case k6 => k_is); (case k7 => k_is); (case k8 => k_room); (case k9 => exact BindsTo.of_eq rfl); (case c5 => decide); (case kB => exact locs rfl); (case c2 => exact rfl); (case c3 => exact rfl); (case c4 => exact rfl); k_whole; intro g' L' h' FG' F' N' B' X' T' l1; (try k_lt l1); (try dsimp only); (try k_lift B'); (try k_fold)) | (refine' code_defC ?k1 ?k2 ?k3 ?k4 ?k5 ?kA ?kF ?kK ?k6 ?k7 ?k8 ?k9 ?kB ?kD ?_ ?c2 ?c3 ?c4; (case kA => exact rfl); (case kF => exact rfl); (case kK => assumption); (case k1 => k_asm); (case k2 => k_asm); (case k3 => k_asm); (case k4 => k_asm); (case k5 => k_asm); (case k6 => k_is); (case k7 => k_is); (case k8 => k_room); (case k9 => exact BindsTo.of_eq rfl); (case kB => exact rfl); (case kD => decide +kernel); (case c2 => exact rfl); (case c3 => exact rfl); (case c4 => exact rfl); k_whole; intro g' L' h' tk' cells' FG' F' N' Y' B' X' T' l1; (try k_lt l1); k_cells Y'; (try simp only [List.cons_append, List.nil_append] at N'); (try dsimp only); (try k_lift B'); (try k_fold)))
  k_with "call builtin:divmod" => (k_here; k_dflt (refine' divmod_L ?k1 ?k2 ?k3 ?k4 ?_; (case k1 => k_asm); (case k2 => k_asm); (case k3 => omega); (case k4 => omega); k_whole); intro D' h' F' N' l1; (try k_lt l1); (try k_sweep))
  intro w mean mg mb g L fa cd s Q R oc lf vf cf fs m l1 l2 v1 v2 ka kb c1 c2 oc1 oc2 vs1 vs2 tk1 tk2 B F X N T C1 C2 hoc hi hf1 hf8 hfr hlf l37 l30 i1 i2 hret
  delta lawB lawE lawD getD
  dsimp only [List.drop]
  refine wpP_head ?_
  k_steps
  refine wpP_head ?_
  k_steps
  refine' hret _ _ _ _ _ _ _ _ _ ?zF ?zo ?zt ?zN ?zi ?zj
  case zF => assumption
  case zo => rfl
  case zt => rfl
  case zN => exact cb_drop (by assumption) (by kcj_all)
  case zi => assumption
  case zj => assumption
end
end
section
section
theorem ifD : ∀ {w : World} {mean : ExcName → Option Value} {mg mb : Str → Option Value} {g : Heap} {L fa : Addr} {cd : Value} {s : Shared} {Q : Flow → Shared → Prop} {E : Value → Shared → Prop} {lo lt : Addr} {vo vt : List Value} {co ct : Nat} {xs ys : List Int} {m : Str → Option Value} {c1 c2 : Addr} {oc1 oc2 : Obj} {vs1 vs2 : Array Value} {tk1 tk2 : Tok} {tail : List (Addr × Obj)} {kk fg : Int} {tf tq : Tok},
      (Below callerA g [] g) →
      (Fr g L s.heap (fun z => if z = Str.ofString "figure" then some (.int fg tf) else if z = Str.ofString "k" then some (.int kk tq) else if z = Str.ofString "one" then some (.ref lo) else if z = Str.ofString "other" then some (.ref lt) else m z)) →
      ((hd.heap_39 w.params).In g) →
      (News g L s.heap ((lt, W.listOf vt.toArray ct) :: (lo, W.listOf vo.toArray co) :: (37, tab2 c2) :: (c2, oc2) :: (30, tab1 c1) :: (c1, oc1) :: tail)) →
      (Top topProg LL mean mg mb g) →
      (CodeHd g 41 37) →
      (CodeHd g 34 30) →
      (IntsAre vo xs) →
      (IntsAre vt ys) →
      (2 ≤ xs.length) →
      (xs.length ≤ 9) →
      (ys.length = xs.length) →
      (∀ x ∈ xs, 0 ≤ x ∧ x < 20) →
      (∀ y ∈ ys, 0 ≤ y ∧ y < 20) →
      (Tabs c1 c2 oc1 oc2 vs1 vs2 tk1 tk2) →
      (0 ≤ kk) →
      (kk < (xs.length : Int)) →
      (0 ≤ fg) →
      (fg < 10) →
      (∀ k f : Int, 0 ≤ k → k < (xs.length : Int) → 0 ≤ f → f < 10 → f ≠ xs.getD k.toNat 0 → luhn (xs.take k.toNat ++ [f] ++ xs.drop (k + 1).toNat) ≠ 0) →
      (∀ h' tk', Fr g L h' (fun z => if z = Str.ofString "figure" then some (.int fg tf) else if z = Str.ofString "k" then some (.int kk tq) else if z = Str.ofString "one" then some (.ref lo) else if z = Str.ofString "other" then some (.ref lt) else m z) → News g L h' ((lt, W.listOf vt.toArray ct) :: (lo, W.listOf vo.toArray co) :: (37, tab2 c2) :: (c2, oc2) :: (30, tab1 c1) :: (c1, oc1) :: tail) → Q .next { s with heap := h', toks := tk' }) →
      wpAny (model PySem.Challenge.rw_gs0003_01.row.prog w) (lawA (lawE L fa cd)) (execs ((forB (forB (lawB.drop 5))).take 1) (lawE L fa cd)) Q E s := by
  k_fill
  w_top off
  k_with_none
  k_with "enter" => (first | (refine' code_defL ?k1 ?k2 ?k3 ?k4 ?k5 ?kA ?kF ?kK ?k6 ?k7 ?k8 ?k9 ?kB ?_ ?c2 ?c3 ?c4 ?c5; (case kA => exact rfl); (case kF => exact rfl); (case kK => assumption); (case k1 => k_asm); (case k2 => k_asm); (case k3 => k_asm); (case k4 => k_asm); (case k5 => k_asm); (case k6 => k_is); (case k7 => k_is); (case k8 => k_room); (case k9 => exact BindsTo.of_eq rfl); (case c5 => decide); (case kB => exact locs rfl); (case c2 => exact rfl); (case c3 => exact rfl); (case c4 => exact rfl); k_whole; intro g' L' h' FG' F' N' B' X' T' l1; (try k_lt l1); (try dsimp only); (try k_lift B'); (try k_fold)) | (refine' code_defC ?k1 ?k2 ?k3 ?k4 ?k5 ?kA ?kF ?kK ?k6 ?k7 ?k8 ?k9 ?kB ?kD ?_ ?c2 ?c3 ?c4; (case kA => exact rfl); (case kF => exact rfl); (case kK => assumption); (case k1 => k_asm); (case k2 => k_asm); (case k3 => k_asm); (case k4 => k_asm); (case k5 => k_asm); (case k6 => k_is); (case k7 => k_is); (case k8 => k_room); (case k9 => exact BindsTo.of_eq rfl); (case kB => exact rfl); (case kD => decide +kernel); (case c2 => exact rfl); (case c3 => exact rfl); (case c4 => exact rfl); k_whole; intro g' L' h' tk' cells' FG' F' N' Y' B' X' T' l1; (try k_lt l1); k_cells Y'; (try simp only [List.cons_append, List.nil_append] at N'); (try dsimp only); (try k_lift B'); (try k_fold)))
  k_with "call builtin:divmod" => (k_here; k_dflt (refine' divmod_L ?k1 ?k2 ?k3 ?k4 ?_; (case k1 => k_asm); (case k2 => k_asm); (case k3 => omega); (case k4 => omega); k_whole); intro D' h' F' N' l1; (try k_lt l1); (try k_sweep))
  k_with "subscriptTail Name Slice ref ref" => (k_here; (with_reducible show wpAny _ _ (subscriptTail _ (PySem.Expr.Slice _ _ none _) (Value.ref _) (Value.ref _)) _ _ _); k_dflt (refine' kmk_slice_ints ?F ?N ?l ?p ?q ?i ?m ?c ?_ ?s ?t ?z; (case F => k_asm); (case N => k_asm); (case l => kmk_list); (case p => kmk_part); (case q => kmk_part); (case i => with_reducible assumption); (case m => first | exact kmk_upto (by with_reducible assumption) (by with_reducible assumption) | exact kmk_from (by with_reducible assumption) (by with_reducible assumption)); (case c => kmk_len); (case s => with_unfolding_all rfl); (case t => kmk_pure); (case z => (refine kmk_sz (by with_reducible assumption) ?_; rw [PySem.sizeLine_eq]; omega))); intro D' ws' h' F' N' l1 hI' hC' hL'; (try simp only [Int.reduceNeg, Int.neg_neg, Int.reduceToNat] at hI' hC' hL'); (try k_lt l1); (try k_sweep))
  intro w mean mg mb g L fa cd s Q E lo lt vo vt co ct xs ys m c1 c2 oc1 oc2 vs1 vs2 tk1 tk2 tail kk fg tf tq B F X N T C1 C2 io it hx2 hx9 hxy hbx hby TB hk0 hkl hf0 hf1 hp1 hret
  delta lawB lawE lawD getD
  dsimp only [List.drop, List.take, forB]
  obtain ⟨d1, v1', d2, v2', _⟩ := id TB
  have hk1 : 0 ≤ kk + 1 := by omega
  repeat' ((fail_if_success (with_reducible show wpAny _ _ (call (Value.ref 70) [Value.ref _]) _ _ _)); (first | (k_unfold; (try dsimp only)) | (k_end; wrow_close) | walk1 | (dsimp only; walk1) | (leave1; walk_say "STEP leave1"; try dsimp only) | fail "no step"))
  · rename News _ _ _ _ => lN
    rename Fr _ _ _ _ => lF
    rename IntsAre _ _ => hI
    have hne := hp1 kk fg hk0 hkl hf0 hf1 (by with_reducible assumption)
    refine' dbl B lF X lN T ?zk C1 C2 ?ze1 ?ze2 ?ze3 ?ze4 d1 v1' d2 v2' ?zg ?zhd ?zhu hI ?zl (rep_bd hbx hf0 (by omega) _ _) ?_
    case zk => rfl
    case ze1 => (repeat (first | exact List.Mem.head _ | apply List.Mem.tail))
    case ze2 => (repeat (first | exact List.Mem.head _ | apply List.Mem.tail))
    case ze3 => (repeat (first | exact List.Mem.head _ | apply List.Mem.tail))
    case ze4 => (repeat (first | exact List.Mem.head _ | apply List.Mem.tail))
    case zg => (repeat (first | exact List.Mem.head _ | apply List.Mem.tail))
    case zhd => cb_room
    case zhu => cb_units
    case zl => (rw [rep_len hk0 hkl]; omega)
    intro t9 h9 tk9 F9 N9
    (try dsimp only)
    k_steps
    all_goals first
      | (exfalso; exact hne (by with_reducible assumption))
      | exact hret _ _ (by assumption) (cb_drop (by assumption) (by kcj_all))
  · exact hret s.heap s.toks (by assumption) (cb_drop (by assumption) (by kcj_all))
end
end
section
section
theorem ifP : ∀ {w : World} {mean : ExcName → Option Value} {mg mb : Str → Option Value} {g : Heap} {L fa : Addr} {cd : Value} {s : Shared} {Q : Flow → Shared → Prop} {E : Value → Shared → Prop} {lo lt : Addr} {vo vt : List Value} {co ct : Nat} {xs ys : List Int} {m : Str → Option Value} {c1 c2 : Addr} {oc1 oc2 : Obj} {vs1 vs2 : Array Value} {tk1 tk2 : Tok} {tail : List (Addr × Obj)} {kk fg : Int} {tf tq : Tok},
      (Below callerA g [] g) →
      (Fr g L s.heap (fun z => if z = Str.ofString "figure" then some (.int fg tf) else if z = Str.ofString "k" then some (.int kk tq) else if z = Str.ofString "one" then some (.ref lo) else if z = Str.ofString "other" then some (.ref lt) else m z)) →
      ((hd.heap_39 w.params).In g) →
      (News g L s.heap ((lt, W.listOf vt.toArray ct) :: (lo, W.listOf vo.toArray co) :: (37, tab2 c2) :: (c2, oc2) :: (30, tab1 c1) :: (c1, oc1) :: tail)) →
      (Top topProg LL mean mg mb g) →
      (CodeHd g 41 37) →
      (CodeHd g 34 30) →
      (IntsAre vo xs) →
      (IntsAre vt ys) →
      (2 ≤ xs.length) →
      (xs.length ≤ 9) →
      (ys.length = xs.length) →
      (∀ x ∈ xs, 0 ≤ x ∧ x < 20) →
      (∀ y ∈ ys, 0 ≤ y ∧ y < 20) →
      (Tabs c1 c2 oc1 oc2 vs1 vs2 tk1 tk2) →
      (0 ≤ kk) →
      (kk < (ys.length : Int)) →
      (0 ≤ fg) →
      (fg < 10) →
      (∀ k f : Int, 0 ≤ k → k < (ys.length : Int) → 0 ≤ f → f < 10 → f ≠ ys.getD k.toNat 0 → places (ys.take k.toNat ++ [f] ++ ys.drop (k + 1).toNat) ≠ 0) →
      (∀ h' tk', Fr g L h' (fun z => if z = Str.ofString "figure" then some (.int fg tf) else if z = Str.ofString "k" then some (.int kk tq) else if z = Str.ofString "one" then some (.ref lo) else if z = Str.ofString "other" then some (.ref lt) else m z) → News g L h' ((lt, W.listOf vt.toArray ct) :: (lo, W.listOf vo.toArray co) :: (37, tab2 c2) :: (c2, oc2) :: (30, tab1 c1) :: (c1, oc1) :: tail) → Q .next { s with heap := h', toks := tk' }) →
      wpAny (model PySem.Challenge.rw_gs0003_01.row.prog w) (lawA (lawE L fa cd)) (execs ((forB (forB (lawB.drop 5))).drop 1) (lawE L fa cd)) Q E s := by
  k_fill
  w_top off
  k_with_none
  k_with "enter" => (first | (refine' code_defL ?k1 ?k2 ?k3 ?k4 ?k5 ?kA ?kF ?kK ?k6 ?k7 ?k8 ?k9 ?kB ?_ ?c2 ?c3 ?c4 ?c5; (case kA => exact rfl); (case kF => exact rfl); (case kK => assumption); (case k1 => k_asm); (case k2 => k_asm); (case k3 => k_asm); (case k4 => k_asm); (case k5 => k_asm); (case k6 => k_is); (case k7 => k_is); (case k8 => k_room); (case k9 => exact BindsTo.of_eq rfl); (case c5 => decide); (case kB => exact locs rfl); (case c2 => exact rfl); (case c3 => exact rfl); (case c4 => exact rfl); k_whole; intro g' L' h' FG' F' N' B' X' T' l1; (try k_lt l1); (try dsimp only); (try k_lift B'); (try k_fold)) | (refine' code_defC ?k1 ?k2 ?k3 ?k4 ?k5 ?kA ?kF ?kK ?k6 ?k7 ?k8 ?k9 ?kB ?kD ?_ ?c2 ?c3 ?c4; (case kA => exact rfl); (case kF => exact rfl); (case kK => assumption); (case k1 => k_asm); (case k2 => k_asm); (case k3 => k_asm); (case k4 => k_asm); (case k5 => k_asm); (case k6 => k_is); (case k7 => k_is); (case k8 => k_room); (case k9 => exact BindsTo.of_eq rfl); (case kB => exact rfl); (case kD => decide +kernel); (case c2 => exact rfl); (case c3 => exact rfl); (case c4 => exact rfl); k_whole; intro g' L' h' tk' cells' FG' F' N' Y' B' X' T' l1; (try k_lt l1); k_cells Y'; (try simp only [List.cons_append, List.nil_append] at N'); (try dsimp only); (try k_lift B'); (try k_fold)))
  k_with "call builtin:divmod" => (k_here; k_dflt (refine' divmod_L ?k1 ?k2 ?k3 ?k4 ?_; (case k1 => k_asm); (case k2 => k_asm); (case k3 => omega); (case k4 => omega); k_whole); intro D' h' F' N' l1; (try k_lt l1); (try k_sweep))
  k_with "subscriptTail Name Slice ref ref" => (k_here; (with_reducible show wpAny _ _ (subscriptTail _ (PySem.Expr.Slice _ _ none _) (Value.ref _) (Value.ref _)) _ _ _); k_dflt (refine' kmk_slice_ints ?F ?N ?l ?p ?q ?i ?m ?c ?_ ?s ?t ?z; (case F => k_asm); (case N => k_asm); (case l => kmk_list); (case p => kmk_part); (case q => kmk_part); (case i => with_reducible assumption); (case m => first | exact kmk_upto (by with_reducible assumption) (by with_reducible assumption) | exact kmk_from (by with_reducible assumption) (by with_reducible assumption)); (case c => kmk_len); (case s => with_unfolding_all rfl); (case t => kmk_pure); (case z => (refine kmk_sz (by with_reducible assumption) ?_; rw [PySem.sizeLine_eq]; omega))); intro D' ws' h' F' N' l1 hI' hC' hL'; (try simp only [Int.reduceNeg, Int.neg_neg, Int.reduceToNat] at hI' hC' hL'); (try k_lt l1); (try k_sweep))
  intro w mean mg mb g L fa cd s Q E lo lt vo vt co ct xs ys m c1 c2 oc1 oc2 vs1 vs2 tk1 tk2 tail kk fg tf tq B F X N T C1 C2 io it hx2 hx9 hxy hbx hby TB hk0 hkl hf0 hf1 hp2 hret
  delta lawB lawE lawD getD
  dsimp only [List.drop, List.take, forB]
  obtain ⟨d1, v1', d2, v2', _⟩ := id TB
  have hk1 : 0 ≤ kk + 1 := by omega
  repeat' ((fail_if_success (with_reducible show wpAny _ _ (call (Value.ref 75) [Value.ref _]) _ _ _)); (first | (k_unfold; (try dsimp only)) | (k_end; wrow_close) | walk1 | (dsimp only; walk1) | (leave1; walk_say "STEP leave1"; try dsimp only) | fail "no step"))
  · rename News _ _ _ _ => lN
    rename Fr _ _ _ _ => lF
    rename IntsAre _ _ => hI
    have hne := hp2 kk fg hk0 hkl hf0 hf1 (by with_reducible assumption)
    refine' plc B lF X lN T ?zk C1 C2 ?ze1 ?ze2 ?ze3 ?ze4 d1 v1' d2 v2' ?zg ?zhd ?zhu hI ?zl (rep_bd hby hf0 (by omega) _ _) ?_
    case zk => rfl
    case ze1 => (repeat (first | exact List.Mem.head _ | apply List.Mem.tail))
    case ze2 => (repeat (first | exact List.Mem.head _ | apply List.Mem.tail))
    case ze3 => (repeat (first | exact List.Mem.head _ | apply List.Mem.tail))
    case ze4 => (repeat (first | exact List.Mem.head _ | apply List.Mem.tail))
    case zg => (repeat (first | exact List.Mem.head _ | apply List.Mem.tail))
    case zhd => cb_room
    case zhu => cb_units
    case zl => (rw [rep_len hk0 hkl]; omega)
    intro t9 h9 tk9 F9 N9
    (try dsimp only)
    k_steps
    all_goals first
      | (exfalso; exact hne (by with_reducible assumption))
      | exact hret _ _ (by assumption) (cb_drop (by assumption) (by kcj_all))
  · exact hret s.heap s.toks (by assumption) (cb_drop (by assumption) (by kcj_all))
end
end
section
section
theorem ifX : ∀ {w : World} {mean : ExcName → Option Value} {mg mb : Str → Option Value} {g : Heap} {L fa : Addr} {cd : Value} {s : Shared} {Q : Flow → Shared → Prop} {E : Value → Shared → Prop} {lo lt : Addr} {vo vt : List Value} {co ct : Nat} {xs ys : List Int} {m : Str → Option Value} {c1 c2 : Addr} {oc1 oc2 : Obj} {vs1 vs2 : Array Value} {tk1 tk2 : Tok} {tail : List (Addr × Obj)} {kk : Int} {tq : Tok},
      (Below callerA g [] g) →
      (Fr g L s.heap (fun z => if z = Str.ofString "k" then some (.int kk tq) else if z = Str.ofString "one" then some (.ref lo) else if z = Str.ofString "other" then some (.ref lt) else m z)) →
      ((hd.heap_39 w.params).In g) →
      (News g L s.heap ((lt, W.listOf vt.toArray ct) :: (lo, W.listOf vo.toArray co) :: (37, tab2 c2) :: (c2, oc2) :: (30, tab1 c1) :: (c1, oc1) :: tail)) →
      (Top topProg LL mean mg mb g) →
      (CodeHd g 41 37) →
      (CodeHd g 34 30) →
      (IntsAre vo xs) →
      (IntsAre vt ys) →
      (2 ≤ xs.length) →
      (xs.length ≤ 9) →
      (ys.length = xs.length) →
      (∀ x ∈ xs, 0 ≤ x ∧ x < 20) →
      (∀ y ∈ ys, 0 ≤ y ∧ y < 20) →
      (Tabs c1 c2 oc1 oc2 vs1 vs2 tk1 tk2) →
      (1 ≤ kk) →
      (kk < (xs.length : Int)) →
      (∀ k : Int, 1 ≤ k → k < (xs.length : Int) → (luhn (swapped xs (k - 1).toNat k.toNat) = 0 ↔ (xs.getD (k - 1).toNat 0 = xs.getD k.toNat 0 ∨ (xs.getD (k - 1).toNat 0 = 0 ∧ xs.getD k.toNat 0 = 9) ∨ (xs.getD (k - 1).toNat 0 = 9 ∧ xs.getD k.toNat 0 = 0)))) →
      (∀ h' tk', Fr g L h' (fun z => if z = Str.ofString "k" then some (.int kk tq) else if z = Str.ofString "one" then some (.ref lo) else if z = Str.ofString "other" then some (.ref lt) else m z) → News g L h' ((lt, W.listOf vt.toArray ct) :: (lo, W.listOf vo.toArray co) :: (37, tab2 c2) :: (c2, oc2) :: (30, tab1 c1) :: (c1, oc1) :: tail) → Q .next { s with heap := h', toks := tk' }) →
      wpAny (model PySem.Challenge.rw_gs0003_01.row.prog w) (lawA (lawE L fa cd)) (execs ((forB (lawB.drop 6)).take 1) (lawE L fa cd)) Q E s := by
  k_fill
  w_top off
  k_with_none
  k_with "enter" => (first | (refine' code_defL ?k1 ?k2 ?k3 ?k4 ?k5 ?kA ?kF ?kK ?k6 ?k7 ?k8 ?k9 ?kB ?_ ?c2 ?c3 ?c4 ?c5; (case kA => exact rfl); (case kF => exact rfl); (case kK => assumption); (case k1 => k_asm); (case k2 => k_asm); (case k3 => k_asm); (case k4 => k_asm); (case k5 => k_asm); (case k6 => k_is); (case k7 => k_is); (case k8 => k_room); (case k9 => exact BindsTo.of_eq rfl); (case c5 => decide); (case kB => exact locs rfl); (case c2 => exact rfl); (case c3 => exact rfl); (case c4 => exact rfl); k_whole; intro g' L' h' FG' F' N' B' X' T' l1; (try k_lt l1); (try dsimp only); (try k_lift B'); (try k_fold)) | (refine' code_defC ?k1 ?k2 ?k3 ?k4 ?k5 ?kA ?kF ?kK ?k6 ?k7 ?k8 ?k9 ?kB ?kD ?_ ?c2 ?c3 ?c4; (case kA => exact rfl); (case kF => exact rfl); (case kK => assumption); (case k1 => k_asm); (case k2 => k_asm); (case k3 => k_asm); (case k4 => k_asm); (case k5 => k_asm); (case k6 => k_is); (case k7 => k_is); (case k8 => k_room); (case k9 => exact BindsTo.of_eq rfl); (case kB => exact rfl); (case kD => decide +kernel); (case c2 => exact rfl); (case c3 => exact rfl); (case c4 => exact rfl); k_whole; intro g' L' h' tk' cells' FG' F' N' Y' B' X' T' l1; (try k_lt l1); k_cells Y'; (try simp only [List.cons_append, List.nil_append] at N'); (try dsimp only); (try k_lift B'); (try k_fold)))
  k_with "call builtin:divmod" => (k_here; k_dflt (refine' divmod_L ?k1 ?k2 ?k3 ?k4 ?_; (case k1 => k_asm); (case k2 => k_asm); (case k3 => omega); (case k4 => omega); k_whole); intro D' h' F' N' l1; (try k_lt l1); (try k_sweep))
  k_with "subscriptTail Name Slice ref ref" => (k_here; (with_reducible show wpAny _ _ (subscriptTail _ (PySem.Expr.Slice _ _ none _) (Value.ref _) (Value.ref _)) _ _ _); k_dflt (refine' kmk_slice_ints ?F ?N ?l ?p ?q ?i ?m ?c ?_ ?s ?t ?z; (case F => k_asm); (case N => k_asm); (case l => kmk_list); (case p => kmk_part); (case q => kmk_part); (case i => with_reducible assumption); (case m => first | exact kmk_upto (by with_reducible assumption) (by with_reducible assumption) | exact kmk_from (by with_reducible assumption) (by with_reducible assumption)); (case c => kmk_len); (case s => with_unfolding_all rfl); (case t => kmk_pure); (case z => (refine kmk_sz (by with_reducible assumption) ?_; rw [PySem.sizeLine_eq]; omega))); intro D' ws' h' F' N' l1 hI' hC' hL'; (try simp only [Int.reduceNeg, Int.neg_neg, Int.reduceToNat] at hI' hC' hL'); (try k_lt l1); (try k_sweep))
  intro w mean mg mb g L fa cd s Q E lo lt vo vt co ct xs ys m c1 c2 oc1 oc2 vs1 vs2 tk1 tk2 tail kk tq B F X N T C1 C2 io it hx2 hx9 hxy hbx hby TB hk0 hkl hp3 hret
  delta lawB lawE lawD getD
  dsimp only [List.drop, List.take, forB]
  obtain ⟨d1, v1', d2, v2', _⟩ := id TB
  have hk1 : 0 ≤ kk - 1 := by omega
  repeat' ((fail_if_success (with_reducible show wpAny _ _ (call (Value.ref 82) [Value.ref _, Value.int _ _, Value.int _ _]) _ _ _)); (first | (k_unfold; (try dsimp only)) | (k_end; wrow_close) | walk1 | (dsimp only; walk1) | (leave1; walk_say "STEP leave1"; try dsimp only) | fail "no step"))
  rename News _ _ _ _ => lN
  rename Fr _ _ _ _ => lF
  refine' exch B lF X lN T ?zk ?zg ?zhd ?zhu io ?zl ?z0 ?z1 ?z2 ?z3 ?_
  case zk => rfl
  case zg => (repeat (first | exact List.Mem.head _ | apply List.Mem.tail))
  case zhd => cb_room
  case zhu => cb_units
  case zl => omega
  case z0 => omega
  case z1 => omega
  case z2 => omega
  case z3 => omega
  intro vs9 c9 D9 h9 tk9 F9 N9 l9 hI
  (try k_lt l9)
  (try dsimp only)
  repeat' ((fail_if_success (with_reducible show wpAny _ _ (call (Value.ref 70) [Value.ref _]) _ _ _)); (first | (k_unfold; (try dsimp only)) | (k_end; wrow_close) | walk1 | (dsimp only; walk1) | (leave1; walk_say "STEP leave1"; try dsimp only) | fail "no step"))
  clear lN lF
  rename News _ _ _ _ => lN
  rename Fr _ _ _ _ => lF
  refine' dbl B lF X lN T ?zk C1 C2 ?ze1 ?ze2 ?ze3 ?ze4 d1 v1' d2 v2' ?zg ?zhd ?zhu hI ?zl (sw_bd hbx _ _) ?_
  case zk => rfl
  case ze1 => (repeat (first | exact List.Mem.head _ | apply List.Mem.tail))
  case ze2 => (repeat (first | exact List.Mem.head _ | apply List.Mem.tail))
  case ze3 => (repeat (first | exact List.Mem.head _ | apply List.Mem.tail))
  case ze4 => (repeat (first | exact List.Mem.head _ | apply List.Mem.tail))
  case zg => (repeat (first | exact List.Mem.head _ | apply List.Mem.tail))
  case zhd => cb_room
  case zhu => cb_units
  case zl => (rw [sw_len]; omega)
  intro t8 h8 tk8 F8 N8
  (try dsimp only)
  clear lN lF
  k_steps
  all_goals first
    | exact (bne1 (hp3 kk hk0 hkl) (by with_reducible assumption) (by with_reducible assumption)).elim
    | exact (bne2 (hp3 kk hk0 hkl) (by with_reducible assumption) (by with_reducible assumption) (by with_reducible assumption) (by with_reducible assumption)).elim
    | exact hret _ _ (by assumption) (cb_drop (by assumption) (by kcj_all))
end
end
section
section
theorem ifY : ∀ {w : World} {mean : ExcName → Option Value} {mg mb : Str → Option Value} {g : Heap} {L fa : Addr} {cd : Value} {s : Shared} {Q : Flow → Shared → Prop} {E : Value → Shared → Prop} {lo lt : Addr} {vo vt : List Value} {co ct : Nat} {xs ys : List Int} {m : Str → Option Value} {c1 c2 : Addr} {oc1 oc2 : Obj} {vs1 vs2 : Array Value} {tk1 tk2 : Tok} {tail : List (Addr × Obj)} {jj kk : Int} {tf tq : Tok},
      (Below callerA g [] g) →
      (Fr g L s.heap (fun z => if z = Str.ofString "j" then some (.int jj tf) else if z = Str.ofString "k" then some (.int kk tq) else if z = Str.ofString "one" then some (.ref lo) else if z = Str.ofString "other" then some (.ref lt) else m z)) →
      ((hd.heap_39 w.params).In g) →
      (News g L s.heap ((lt, W.listOf vt.toArray ct) :: (lo, W.listOf vo.toArray co) :: (37, tab2 c2) :: (c2, oc2) :: (30, tab1 c1) :: (c1, oc1) :: tail)) →
      (Top topProg LL mean mg mb g) →
      (CodeHd g 41 37) →
      (CodeHd g 34 30) →
      (IntsAre vo xs) →
      (IntsAre vt ys) →
      (2 ≤ xs.length) →
      (xs.length ≤ 9) →
      (ys.length = xs.length) →
      (∀ x ∈ xs, 0 ≤ x ∧ x < 20) →
      (∀ y ∈ ys, 0 ≤ y ∧ y < 20) →
      (Tabs c1 c2 oc1 oc2 vs1 vs2 tk1 tk2) →
      (0 ≤ jj) →
      (jj < kk) →
      (kk < (ys.length : Int)) →
      (∀ j k : Int, 0 ≤ j → j < k → k < (ys.length : Int) → (places (swapped ys j.toNat k.toNat) = 0 ↔ ys.getD j.toNat 0 = ys.getD k.toNat 0)) →
      (∀ h' tk', Fr g L h' (fun z => if z = Str.ofString "j" then some (.int jj tf) else if z = Str.ofString "k" then some (.int kk tq) else if z = Str.ofString "one" then some (.ref lo) else if z = Str.ofString "other" then some (.ref lt) else m z) → News g L h' ((lt, W.listOf vt.toArray ct) :: (lo, W.listOf vo.toArray co) :: (37, tab2 c2) :: (c2, oc2) :: (30, tab1 c1) :: (c1, oc1) :: tail) → Q .next { s with heap := h', toks := tk' }) →
      wpAny (model PySem.Challenge.rw_gs0003_01.row.prog w) (lawA (lawE L fa cd)) (execs (forB ((forB (lawB.drop 6)).drop 1)) (lawE L fa cd)) Q E s := by
  k_fill
  w_top off
  k_with_none
  k_with "enter" => (first | (refine' code_defL ?k1 ?k2 ?k3 ?k4 ?k5 ?kA ?kF ?kK ?k6 ?k7 ?k8 ?k9 ?kB ?_ ?c2 ?c3 ?c4 ?c5; (case kA => exact rfl); (case kF => exact rfl); (case kK => assumption); (case k1 => k_asm); (case k2 => k_asm); (case k3 => k_asm); (case k4 => k_asm); (case k5 => k_asm); (case k6 => k_is); (case k7 => k_is); (case k8 => k_room); (case k9 => exact BindsTo.of_eq rfl); (case c5 => decide); (case kB => exact locs rfl); (case c2 => exact rfl); (case c3 => exact rfl); (case c4 => exact rfl); k_whole; intro g' L' h' FG' F' N' B' X' T' l1; (try k_lt l1); (try dsimp only); (try k_lift B'); (try k_fold)) | (refine' code_defC ?k1 ?k2 ?k3 ?k4 ?k5 ?kA ?kF ?kK ?k6 ?k7 ?k8 ?k9 ?kB ?kD ?_ ?c2 ?c3 ?c4; (case kA => exact rfl); (case kF => exact rfl); (case kK => assumption); (case k1 => k_asm); (case k2 => k_asm); (case k3 => k_asm); (case k4 => k_asm); (case k5 => k_asm); (case k6 => k_is); (case k7 => k_is); (case k8 => k_room); (case k9 => exact BindsTo.of_eq rfl); (case kB => exact rfl); (case kD => decide +kernel); (case c2 => exact rfl); (case c3 => exact rfl); (case c4 => exact rfl); k_whole; intro g' L' h' tk' cells' FG' F' N' Y' B' X' T' l1; (try k_lt l1); k_cells Y'; (try simp only [List.cons_append, List.nil_append] at N'); (try dsimp only); (try k_lift B'); (try k_fold)))
  k_with "call builtin:divmod" => (k_here; k_dflt (refine' divmod_L ?k1 ?k2 ?k3 ?k4 ?_; (case k1 => k_asm); (case k2 => k_asm); (case k3 => omega); (case k4 => omega); k_whole); intro D' h' F' N' l1; (try k_lt l1); (try k_sweep))
  k_with "subscriptTail Name Slice ref ref" => (k_here; (with_reducible show wpAny _ _ (subscriptTail _ (PySem.Expr.Slice _ _ none _) (Value.ref _) (Value.ref _)) _ _ _); k_dflt (refine' kmk_slice_ints ?F ?N ?l ?p ?q ?i ?m ?c ?_ ?s ?t ?z; (case F => k_asm); (case N => k_asm); (case l => kmk_list); (case p => kmk_part); (case q => kmk_part); (case i => with_reducible assumption); (case m => first | exact kmk_upto (by with_reducible assumption) (by with_reducible assumption) | exact kmk_from (by with_reducible assumption) (by with_reducible assumption)); (case c => kmk_len); (case s => with_unfolding_all rfl); (case t => kmk_pure); (case z => (refine kmk_sz (by with_reducible assumption) ?_; rw [PySem.sizeLine_eq]; omega))); intro D' ws' h' F' N' l1 hI' hC' hL'; (try simp only [Int.reduceNeg, Int.neg_neg, Int.reduceToNat] at hI' hC' hL'); (try k_lt l1); (try k_sweep))
  intro w mean mg mb g L fa cd s Q E lo lt vo vt co ct xs ys m c1 c2 oc1 oc2 vs1 vs2 tk1 tk2 tail jj kk tf tq B F X N T C1 C2 io it hx2 hx9 hxy hbx hby TB hj0 hjk hkl hp4 hret
  delta lawB lawE lawD getD
  dsimp only [List.drop, List.take, forB]
  obtain ⟨d1, v1', d2, v2', _⟩ := id TB
  have hk1 : 0 ≤ kk := by omega
  repeat' ((fail_if_success (with_reducible show wpAny _ _ (call (Value.ref 82) [Value.ref _, Value.int _ _, Value.int _ _]) _ _ _)); (first | (k_unfold; (try dsimp only)) | (k_end; wrow_close) | walk1 | (dsimp only; walk1) | (leave1; walk_say "STEP leave1"; try dsimp only) | fail "no step"))
  rename News _ _ _ _ => lN
  rename Fr _ _ _ _ => lF
  refine' exch B lF X lN T ?zk ?zg ?zhd ?zhu it ?zl ?z0 ?z1 ?z2 ?z3 ?_
  case zk => rfl
  case zg => (repeat (first | exact List.Mem.head _ | apply List.Mem.tail))
  case zhd => cb_room
  case zhu => cb_units
  case zl => omega
  case z0 => omega
  case z1 => omega
  case z2 => omega
  case z3 => omega
  intro vs9 c9 D9 h9 tk9 F9 N9 l9 hI
  (try k_lt l9)
  (try dsimp only)
  repeat' ((fail_if_success (with_reducible show wpAny _ _ (call (Value.ref 75) [Value.ref _]) _ _ _)); (first | (k_unfold; (try dsimp only)) | (k_end; wrow_close) | walk1 | (dsimp only; walk1) | (leave1; walk_say "STEP leave1"; try dsimp only) | fail "no step"))
  clear lN lF
  rename News _ _ _ _ => lN
  rename Fr _ _ _ _ => lF
  refine' plc B lF X lN T ?zk C1 C2 ?ze1 ?ze2 ?ze3 ?ze4 d1 v1' d2 v2' ?zg ?zhd ?zhu hI ?zl (sw_bd hby _ _) ?_
  case zk => rfl
  case ze1 => (repeat (first | exact List.Mem.head _ | apply List.Mem.tail))
  case ze2 => (repeat (first | exact List.Mem.head _ | apply List.Mem.tail))
  case ze3 => (repeat (first | exact List.Mem.head _ | apply List.Mem.tail))
  case ze4 => (repeat (first | exact List.Mem.head _ | apply List.Mem.tail))
  case zg => (repeat (first | exact List.Mem.head _ | apply List.Mem.tail))
  case zhd => cb_room
  case zhu => cb_units
  case zl => (rw [sw_len]; omega)
  intro t8 h8 tk8 F8 N8
  (try dsimp only)
  clear lN lF
  k_steps
  all_goals first
    | exact (bne3 (hp4 jj kk hj0 hjk hkl) (by with_reducible assumption)).elim
    | exact hret _ _ (by assumption) (cb_drop (by assumption) (by kcj_all))
end
end
section
section
theorem stC : ∀ {w : World} {mean : ExcName → Option Value} {mg mb : Str → Option Value} {g : Heap} {L fa : Addr} {cd : Value} {s : Shared} {Q : Flow → Shared → Prop} {R : Result → Shared → Prop} {lo lt : Addr} {vo vt : List Value} {co ct : Nat} {xs ys : List Int} {m : Str → Option Value} {c1 c2 : Addr} {oc1 oc2 : Obj} {vs1 vs2 : Array Value} {tk1 tk2 : Tok},
      (Below callerA g [] g) →
      (Fr g L s.heap (fun z => if z = Str.ofString "one" then some (.ref lo) else if z = Str.ofString "other" then some (.ref lt) else m z)) →
      ((hd.heap_39 w.params).In g) →
      (News g L s.heap ((lt, W.listOf vt.toArray ct) :: (lo, W.listOf vo.toArray co) :: [(37, tab2 c2), (c2, oc2), (30, tab1 c1), (c1, oc1)])) →
      (Top topProg LL mean mg mb g) →
      (CodeHd g 41 37) →
      (CodeHd g 34 30) →
      (IntsAre vo xs) →
      (IntsAre vt ys) →
      (2 ≤ xs.length) →
      (xs.length ≤ 9) →
      (ys.length = xs.length) →
      (∀ x ∈ xs, 0 ≤ x ∧ x < 20) →
      (∀ y ∈ ys, 0 ≤ y ∧ y < 20) →
      (Tabs c1 c2 oc1 oc2 vs1 vs2 tk1 tk2) →
      (∀ k f : Int, 0 ≤ k → k < (xs.length : Int) → 0 ≤ f → f < 10 → f ≠ xs.getD k.toNat 0 → luhn (xs.take k.toNat ++ [f] ++ xs.drop (k + 1).toNat) ≠ 0) →
      (∀ k f : Int, 0 ≤ k → k < (ys.length : Int) → 0 ≤ f → f < 10 → f ≠ ys.getD k.toNat 0 → places (ys.take k.toNat ++ [f] ++ ys.drop (k + 1).toNat) ≠ 0) →
      (∀ (u : Str → Option Value) h' tk', Fr g L h' (fun z => if z = Str.ofString "one" then some (.ref lo) else if z = Str.ofString "other" then some (.ref lt) else u z) → News g L h' ((lt, W.listOf vt.toArray ct) :: (lo, W.listOf vo.toArray co) :: [(37, tab2 c2), (c2, oc2), (30, tab1 c1), (c1, oc1)]) →
        wpP (model PySem.Challenge.rw_gs0003_01.row.prog w) (lawA (lawE L fa cd)) (execs (lawB.drop 6) (lawE L fa cd)) Q (fun e s' => wpAny (model PySem.Challenge.rw_gs0003_01.row.prog w) (lawA (lawE L fa cd)) (leaving (lawE L fa cd) e) (fun _ s'' => R (.error e) s'') (fun e' s'' => R (.error e') s'') s') { s with heap := h', toks := tk' }) →
      wpP (model PySem.Challenge.rw_gs0003_01.row.prog w) (lawA (lawE L fa cd)) (execs (lawB.drop 5) (lawE L fa cd)) Q (fun e s' => wpAny (model PySem.Challenge.rw_gs0003_01.row.prog w) (lawA (lawE L fa cd)) (leaving (lawE L fa cd) e) (fun _ s'' => R (.error e) s'') (fun e' s'' => R (.error e') s'') s') s := by
  k_fill
  w_top off
  k_with_none
  k_with "enter" => (first | (refine' code_defL ?k1 ?k2 ?k3 ?k4 ?k5 ?kA ?kF ?kK ?k6 ?k7 ?k8 ?k9 ?kB ?_ ?c2 ?c3 ?c4 ?c5; (case kA => exact rfl); (case kF => exact rfl); (case kK => assumption); (case k1 => k_asm); (case k2 => k_asm); (case k3 => k_asm); (case k4 => k_asm); (case k5 => k_asm); (case k6 => k_is); (case k7 => k_is); (case k8 => k_room); (case k9 => exact BindsTo.of_eq rfl); (case c5 => decide); (case kB => exact locs rfl); (case c2 => exact rfl); (case c3 => exact rfl); (case c4 => exact rfl); k_whole; intro g' L' h' FG' F' N' B' X' T' l1; (try k_lt l1); (try dsimp only); (try k_lift B'); (try k_fold)) | (refine' code_defC ?k1 ?k2 ?k3 ?k4 ?k5 ?kA ?kF ?kK ?k6 ?k7 ?k8 ?k9 ?kB ?kD ?_ ?c2 ?c3 ?c4; (case kA => exact rfl); (case kF => exact rfl); (case kK => assumption); (case k1 => k_asm); (case k2 => k_asm); (case k3 => k_asm); (case k4 => k_asm); (case k5 => k_asm); (case k6 => k_is); (case k7 => k_is); (case k8 => k_room); (case k9 => exact BindsTo.of_eq rfl); (case kB => exact rfl); (case kD => decide +kernel); (case c2 => exact rfl); (case c3 => exact rfl); (case c4 => exact rfl); k_whole; intro g' L' h' tk' cells' FG' F' N' Y' B' X' T' l1; (try k_lt l1); k_cells Y'; (try simp only [List.cons_append, List.nil_append] at N'); (try dsimp only); (try k_lift B'); (try k_fold)))
  k_with "call builtin:divmod" => (k_here; k_dflt (refine' divmod_L ?k1 ?k2 ?k3 ?k4 ?_; (case k1 => k_asm); (case k2 => k_asm); (case k3 => omega); (case k4 => omega); k_whole); intro D' h' F' N' l1; (try k_lt l1); (try k_sweep))
  intro w mean mg mb g L fa cd s Q R lo lt vo vt co ct xs ys m c1 c2 oc1 oc2 vs1 vs2 tk1 tk2 B F X N T C1 C2 io it hx2 hx9 hxy hbx hby TB hp1 hp2 hret
  delta lawB lawE lawD getD
  dsimp only [List.drop]
  refine wpP_head ?_
  repeat' ((fail_if_success (with_reducible show wpAny _ _ (pyIter (Value.ref _)) (fun it s₂ => LoopAtV _ _ _ _ _ _ _ _ _ it s₂) _ _)); (first | (k_unfold; (try dsimp only)) | (k_end; wrow_close) | walk1 | (dsimp only; walk1) | (leave1; walk_say "STEP leave1"; try dsimp only) | fail "no step"))
  rename Fr _ _ _ _ => lF
  rename News _ _ _ _ => lN
  rename IsRange _ _ _ _ _ _ _ _ => rgX
  (with_unfolding_all refine' invT (Str.ofString "k") (Str.ofString "figure") (fun _ => ((lt, W.listOf vt.toArray ct) :: (lo, W.listOf vo.toArray co) :: [(37, tab2 c2), (c2, oc2), (30, tab1 c1), (c1, oc1)])) (by rfl) rgX (rng_small (show xs.length ≤ 12 by omega)) (rangeSize_nat _ _) lF (by exact lN) (fun k t u h tk own hk9 hoff F' N' => ?_) (fun u h tk F' N' => ?_))
  · clear lF lN rgX
    obtain ⟨kk, hkk⟩ : ∃ kk : Int, kk = 0 + (k : Int) * 1 := ⟨_, rfl⟩
    rw [← hkk] at F'
    have hk0 : 0 ≤ kk := by omega
    have hk1 : kk < (xs.length : Int) := by omega
    have hk2 : kk < (ys.length : Int) := by omega
    have N2 : News g L h ((lt, W.listOf vt.toArray ct) :: (lo, W.listOf vo.toArray co) :: (37, tab2 c2) :: (c2, oc2) :: (30, tab1 c1) :: (c1, oc1) :: own) := N'
    clear N'
    repeat' ((fail_if_success (with_reducible show wpAny _ _ (pyIter (Value.ref _)) (fun it s₂ => LoopAtV _ _ _ _ _ _ _ _ _ it s₂) _ _)); (first | (k_unfold; (try dsimp only)) | (k_end; wrow_close) | walk1 | (dsimp only; walk1) | (leave1; walk_say "STEP leave1"; try dsimp only) | fail "no step"))
    rename Fr _ _ _ _ => lF
    rename News _ _ _ _ => lN
    rename IsRange _ _ _ _ _ _ _ _ => rgX
    (with_unfolding_all refine' invT (Str.ofString "figure") (Str.ofString "figure") (fun _ => ((lt, W.listOf vt.toArray ct) :: (lo, W.listOf vo.toArray co) :: [(37, tab2 c2), (c2, oc2), (30, tab1 c1), (c1, oc1)]) ++ own) (by rfl) rgX ten_small ten_size lF (by exact lN) (fun i t u h tk own2 hi9 hoff2 F' N' => ?_) (fun u h tk F' N' => ?_))
    · clear lF lN rgX
      obtain ⟨fg, hfg⟩ : ∃ fg : Int, fg = 0 + (i : Int) * 1 := ⟨_, rfl⟩
      rw [← hfg] at F'
      have hf0 : 0 ≤ fg := by omega
      have hf1 : fg < 10 := by omega
      obtain ⟨tail, htail⟩ : ∃ tail, tail = own ++ own2 := ⟨_, rfl⟩
      have N3 : News g L h ((lt, W.listOf vt.toArray ct) :: (lo, W.listOf vo.toArray co) :: (37, tab2 c2) :: (c2, oc2) :: (30, tab1 c1) :: (c1, oc1) :: tail) := by
        rw [htail]; exact N'
      clear N'
      have F3 := frIns (frIns (frIns (frIns F' (x := Str.ofString "other") rfl) (x := Str.ofString "one") rfl) (x := Str.ofString "k") rfl) (x := Str.ofString "figure") rfl
      refine cut (ifD B F3 X N3 T C1 C2 io it hx2 hx9 hxy hbx hby TB hk0 hk1 hf0 hf1 hp1 fun h8 tk8 F8 N8 => ?_)
      dsimp only
      refine ifP B F8 X N8 T C1 C2 io it hx2 hx9 hxy hbx hby TB hk0 hk2 hf0 hf1 hp2 fun h9 tk9 F9 N9 => ?_
      refine' k2_end F9 N9 ?zn ?zo ?zh ?zm
      case zn =>
        subst htail
        intro p hp
        have q : p ∈ ((lt, W.listOf vt.toArray ct) :: (lo, W.listOf vo.toArray co) :: [(37, tab2 c2), (c2, oc2), (30, tab1 c1), (c1, oc1)]) ++ (own ++ own2) := by rw [← List.append_assoc]; exact List.mem_append_left _ hp
        exact q
      case zo =>
        subst htail
        intro p hp
        exact List.mem_append_right ((lt, W.listOf vt.toArray ct) :: (lo, W.listOf vo.toArray co) :: [(37, tab2 c2), (c2, oc2), (30, tab1 c1), (c1, oc1)]) (List.mem_append_right own hp)
      case zh => exact hoff2
      case zm =>
        intro z h1 h2
        simp only [h1, if_false]
        (repeat' split) <;> first | rfl | (exfalso; contradiction) | simp_all
    · clear lF lN rgX
      refine wpAny_execs_nil ?_
      refine' k2_end F' N' ?zn ?zo hoff ?zm
      case zn => (intro p hp; exact List.mem_append_left _ hp)
      case zo => (intro p hp; exact List.mem_append_right _ hp)
      case zm => (intro z h1 h2; simp only [h1, h2, if_false])
  · clear lF lN rgX
    refine wpAny_execs_nil ?_
    exact hret _ _ _ (frIns (frIns F' (x := Str.ofString "other") rfl) (x := Str.ofString "one") rfl) N'
end
end
section
section
theorem stD : ∀ {w : World} {mean : ExcName → Option Value} {mg mb : Str → Option Value} {g : Heap} {L fa : Addr} {cd : Value} {s : Shared} {Q : Flow → Shared → Prop} {R : Result → Shared → Prop} {lo lt : Addr} {vo vt : List Value} {co ct : Nat} {xs ys : List Int} {m : Str → Option Value} {c1 c2 : Addr} {oc1 oc2 : Obj} {vs1 vs2 : Array Value} {tk1 tk2 : Tok},
      (Below callerA g [] g) →
      (Fr g L s.heap (fun z => if z = Str.ofString "one" then some (.ref lo) else if z = Str.ofString "other" then some (.ref lt) else m z)) →
      ((hd.heap_39 w.params).In g) →
      (News g L s.heap ((lt, W.listOf vt.toArray ct) :: (lo, W.listOf vo.toArray co) :: [(37, tab2 c2), (c2, oc2), (30, tab1 c1), (c1, oc1)])) →
      (Top topProg LL mean mg mb g) →
      (CodeHd g 41 37) →
      (CodeHd g 34 30) →
      (IntsAre vo xs) →
      (IntsAre vt ys) →
      (2 ≤ xs.length) →
      (xs.length ≤ 9) →
      (ys.length = xs.length) →
      (∀ x ∈ xs, 0 ≤ x ∧ x < 20) →
      (∀ y ∈ ys, 0 ≤ y ∧ y < 20) →
      (Tabs c1 c2 oc1 oc2 vs1 vs2 tk1 tk2) →
      (∀ k : Int, 1 ≤ k → k < (xs.length : Int) → (luhn (swapped xs (k - 1).toNat k.toNat) = 0 ↔ (xs.getD (k - 1).toNat 0 = xs.getD k.toNat 0 ∨ (xs.getD (k - 1).toNat 0 = 0 ∧ xs.getD k.toNat 0 = 9) ∨ (xs.getD (k - 1).toNat 0 = 9 ∧ xs.getD k.toNat 0 = 0)))) →
      (∀ j k : Int, 0 ≤ j → j < k → k < (ys.length : Int) → (places (swapped ys j.toNat k.toNat) = 0 ↔ ys.getD j.toNat 0 = ys.getD k.toNat 0)) →
      (∀ (u : Str → Option Value) h' tk', Fr g L h' (fun z => if z = Str.ofString "one" then some (.ref lo) else if z = Str.ofString "other" then some (.ref lt) else u z) → News g L h' ((lt, W.listOf vt.toArray ct) :: (lo, W.listOf vo.toArray co) :: [(37, tab2 c2), (c2, oc2), (30, tab1 c1), (c1, oc1)]) →
        wpP (model PySem.Challenge.rw_gs0003_01.row.prog w) (lawA (lawE L fa cd)) (execs (lawB.drop 7) (lawE L fa cd)) Q (fun e s' => wpAny (model PySem.Challenge.rw_gs0003_01.row.prog w) (lawA (lawE L fa cd)) (leaving (lawE L fa cd) e) (fun _ s'' => R (.error e) s'') (fun e' s'' => R (.error e') s'') s') { s with heap := h', toks := tk' }) →
      wpP (model PySem.Challenge.rw_gs0003_01.row.prog w) (lawA (lawE L fa cd)) (execs (lawB.drop 6) (lawE L fa cd)) Q (fun e s' => wpAny (model PySem.Challenge.rw_gs0003_01.row.prog w) (lawA (lawE L fa cd)) (leaving (lawE L fa cd) e) (fun _ s'' => R (.error e) s'') (fun e' s'' => R (.error e') s'') s') s := by
  k_fill
  w_top off
  k_with_none
  k_with "enter" => (first | (refine' code_defL ?k1 ?k2 ?k3 ?k4 ?k5 ?kA ?kF ?kK ?k6 ?k7 ?k8 ?k9 ?kB ?_ ?c2 ?c3 ?c4 ?c5; (case kA => exact rfl); (case kF => exact rfl); (case kK => assumption); (case k1 => k_asm); (case k2 => k_asm); (case k3 => k_asm); (case k4 => k_asm); (case k5 => k_asm); (case k6 => k_is); (case k7 => k_is); (case k8 => k_room); (case k9 => exact BindsTo.of_eq rfl); (case c5 => decide); (case kB => exact locs rfl); (case c2 => exact rfl); (case c3 => exact rfl); (case c4 => exact rfl); k_whole; intro g' L' h' FG' F' N' B' X' T' l1; (try k_lt l1); (try dsimp only); (try k_lift B'); (try k_fold)) | (refine' code_defC ?k1 ?k2 ?k3 ?k4 ?k5 ?kA ?kF ?kK ?k6 ?k7 ?k8 ?k9 ?kB ?kD ?_ ?c2 ?c3 ?c4; (case kA => exact rfl); (case kF => exact rfl); (case kK => assumption); (case k1 => k_asm); (case k2 => k_asm); (case k3 => k_asm); (case k4 => k_asm); (case k5 => k_asm); (case k6 => k_is); (case k7 => k_is); (case k8 => k_room); (case k9 => exact BindsTo.of_eq rfl); (case kB => exact rfl); (case kD => decide +kernel); (case c2 => exact rfl); (case c3 => exact rfl); (case c4 => exact rfl); k_whole; intro g' L' h' tk' cells' FG' F' N' Y' B' X' T' l1; (try k_lt l1); k_cells Y'; (try simp only [List.cons_append, List.nil_append] at N'); (try dsimp only); (try k_lift B'); (try k_fold)))
  k_with "call builtin:divmod" => (k_here; k_dflt (refine' divmod_L ?k1 ?k2 ?k3 ?k4 ?_; (case k1 => k_asm); (case k2 => k_asm); (case k3 => omega); (case k4 => omega); k_whole); intro D' h' F' N' l1; (try k_lt l1); (try k_sweep))
  intro w mean mg mb g L fa cd s Q R lo lt vo vt co ct xs ys m c1 c2 oc1 oc2 vs1 vs2 tk1 tk2 B F X N T C1 C2 io it hx2 hx9 hxy hbx hby TB hp3 hp4 hret
  delta lawB lawE lawD getD
  dsimp only [List.drop]
  refine wpP_head ?_
  repeat' ((fail_if_success (with_reducible show wpAny _ _ (pyIter (Value.ref _)) (fun it s₂ => LoopAtV _ _ _ _ _ _ _ _ _ it s₂) _ _)); (first | (k_unfold; (try dsimp only)) | (k_end; wrow_close) | walk1 | (dsimp only; walk1) | (leave1; walk_say "STEP leave1"; try dsimp only) | fail "no step"))
  rename Fr _ _ _ _ => lF
  rename News _ _ _ _ => lN
  rename IsRange _ _ _ _ _ _ _ _ => rgX
  (with_unfolding_all refine' invT (Str.ofString "k") (Str.ofString "j") (fun _ => ((lt, W.listOf vt.toArray ct) :: (lo, W.listOf vo.toArray co) :: [(37, tab2 c2), (c2, oc2), (30, tab1 c1), (c1, oc1)])) (by rfl) rgX (rng_small1 (show xs.length ≤ 12 by omega)) (rangeSize_nat _ _) lF (by exact lN) (fun k t u h tk own hk9 hoff F' N' => ?_) (fun u h tk F' N' => ?_))
  · clear lF lN rgX
    obtain ⟨kk, hkk⟩ : ∃ kk : Int, kk = 1 + (k : Int) * 1 := ⟨_, rfl⟩
    rw [← hkk] at F'
    have hk0 : 1 ≤ kk := by omega
    have hk1 : kk < (xs.length : Int) := by omega
    have hk2 : kk < (ys.length : Int) := by omega
    have hk3 : 0 ≤ kk := by omega
    have hk4 : kk ≤ 12 := by omega
    have N2 : News g L h ((lt, W.listOf vt.toArray ct) :: (lo, W.listOf vo.toArray co) :: (37, tab2 c2) :: (c2, oc2) :: (30, tab1 c1) :: (c1, oc1) :: own) := N'
    clear N'
    have F3 := frIns (frIns (frIns F' (x := Str.ofString "other") rfl) (x := Str.ofString "one") rfl) (x := Str.ofString "k") rfl
    refine cut (ifX B F3 X N2 T C1 C2 io it hx2 hx9 hxy hbx hby TB hk0 hk1 hp3 fun h8 tk8 F8 N8 => ?_)
    dsimp only
    have hid : Hid (kk < (xs.length : Int) ∧ kk < (ys.length : Int) ∧ kk ≤ 12) := ⟨⟨hk1, hk2, hk4⟩⟩
    clear F3 N2 F' hk1 hk2 hk4 hkk hk9
    repeat' ((fail_if_success (with_reducible show wpAny _ _ (pyIter (Value.ref _)) (fun it s₂ => LoopAtV _ _ _ _ _ _ _ _ _ it s₂) _ _)); (first | (k_unfold; (try dsimp only)) | (k_end; wrow_close) | walk1 | (dsimp only; walk1) | (leave1; walk_say "STEP leave1"; try dsimp only) | fail "no step"))
    rename Hid _ => hid
    obtain ⟨hk1, hk2, hk4⟩ : kk < (xs.length : Int) ∧ kk < (ys.length : Int) ∧ kk ≤ 12 := hid.out
    clear hid
    rename Fr _ _ _ _ => lF
    rename News _ _ _ _ => lN
    rename IsRange _ _ _ _ _ _ _ _ => rgX
    (with_unfolding_all refine' invT (Str.ofString "j") (Str.ofString "j") (fun _ => ((lt, W.listOf vt.toArray ct) :: (lo, W.listOf vo.toArray co) :: [(37, tab2 c2), (c2, oc2), (30, tab1 c1), (c1, oc1)]) ++ own) (by rfl) rgX (rng_smallk hk3 hk4) (rangeSize_nat _ _) lF (by exact lN) (fun i t u h tk own2 hi9 hoff2 F' N' => ?_) (fun u h tk F' N' => ?_))
    · clear lF lN rgX
      obtain ⟨jj, hjj⟩ : ∃ jj : Int, jj = 0 + (i : Int) * 1 := ⟨_, rfl⟩
      rw [← hjj] at F'
      have hj0 : 0 ≤ jj := by omega
      have hj1 : jj < kk := by omega
      obtain ⟨tail, htail⟩ : ∃ tail, tail = own ++ own2 := ⟨_, rfl⟩
      have N3 : News g L h ((lt, W.listOf vt.toArray ct) :: (lo, W.listOf vo.toArray co) :: (37, tab2 c2) :: (c2, oc2) :: (30, tab1 c1) :: (c1, oc1) :: tail) := by
        rw [htail]; exact N'
      clear N'
      have F3 := frIns (frIns (frIns (frIns F' (x := Str.ofString "other") rfl) (x := Str.ofString "one") rfl) (x := Str.ofString "k") rfl) (x := Str.ofString "j") rfl
      refine ifY B F3 X N3 T C1 C2 io it hx2 hx9 hxy hbx hby TB hj0 hj1 hk2 hp4 fun h9 tk9 F9 N9 => ?_
      refine' k2_end F9 N9 ?zn ?zo ?zh ?zm
      case zn =>
        subst htail
        intro p hp
        have q : p ∈ ((lt, W.listOf vt.toArray ct) :: (lo, W.listOf vo.toArray co) :: [(37, tab2 c2), (c2, oc2), (30, tab1 c1), (c1, oc1)]) ++ (own ++ own2) := by rw [← List.append_assoc]; exact List.mem_append_left _ hp
        exact q
      case zo =>
        subst htail
        intro p hp
        exact List.mem_append_right ((lt, W.listOf vt.toArray ct) :: (lo, W.listOf vo.toArray co) :: [(37, tab2 c2), (c2, oc2), (30, tab1 c1), (c1, oc1)]) (List.mem_append_right own hp)
      case zh => exact hoff2
      case zm =>
        intro z h1 h2
        simp only [h1, if_false]
        (repeat' split) <;> first | rfl | (exfalso; contradiction) | simp_all
    · clear lF lN rgX
      refine wpAny_execs_nil ?_
      refine' k2_end F' N' ?zn ?zo hoff ?zm
      case zn => (intro p hp; exact List.mem_append_left _ hp)
      case zo => (intro p hp; exact List.mem_append_right _ hp)
      case zm =>
        intro z h1 h2
        simp only [h1, h2, if_false]
        (repeat' split) <;> first | rfl | (exfalso; contradiction) | simp_all
  · clear lF lN rgX
    refine wpAny_execs_nil ?_
    exact hret _ _ _ (frIns (frIns F' (x := Str.ofString "other") rfl) (x := Str.ofString "one") rfl) N'
end
end
section
open PySem PySem.W PyProof.Rows PySem.Spec PySem.Calls PyProof.Rows.LCg
section
theorem wpP_comp {M : Model} {A : Around} {E : Value → Shared → Prop} {s : Shared} {e : Expr} {scope : Scope} {env : Env} {pos : Pos} {newAcc first : Sem Value} {b : Bool} {use : Option (Value → Sem Unit)} {Q : Value → Shared → Prop}
    (h : wpP M A first (fun x s₁ => wpAny M A (comprehension e scope env pos newAcc b (pure x) use) Q E s₁) E s) :
    wpP M A (comprehension e scope env pos newAcc b first use) Q E s := by
  unfold comprehension at h ⊢
  refine wpP_bind (wpP_mono h (fun x s₁ h₁ => wpP_of fun Γ p hΓ => ?_) fun _ _ e => e)
  have := h₁ Γ p hΓ
  rw [Sem.wp_bind', Sem.wp_pure'] at this
  exact this
section
variable {prog : Program} {w : World} {A : Around} {E : Value → Shared → Prop} {s : Shared} {h₀ : Heap} {L : Addr} {m : Str → Option Value} {env : Env}
theorem bytes_rest {x : Str} {px : Pos} {scope : Scope} {cl : List (Str × Addr)} {b : Array UInt8} {Fin : List Value → List (Addr × Obj) → Prop} {news : List (Addr × Obj)}
    (hk : scope.kind = .function) (hl : ∀ C, (compEnvC scope cl C env).kindOf x = some .local) (hd : (x == ("__debug__" : Str)) = false)
    (fin : ∀ ys, IntsAre ys (KBw.bInts b) → Fin ys news) :
    CompRest prog w A h₀ L m env (.Name x px) x scope cl s (fun nx => nx = news) (fun i v => ∃ c u, b[i]? = some c ∧ v = .int (c.toNat : Int) u) Fin b.size 0 [] news := by
  have key : ∀ (j i : Nat) (ys : List Value), i + j = b.size → IntsAre ys ((KBw.bInts b).take i) →
      CompRest prog w A h₀ L m env (.Name x px) x scope cl s (fun nx => nx = news) (fun i v => ∃ c u, b[i]? = some c ∧ v = .int (c.toNat : Int) u) Fin j i ys news := by
    intro j
    induction j with
    | zero =>
      intro i ys hi hy
      rw [List.take_of_length_le (by rw [KBw.ints_length]; omega)] at hy
      exact CompRest.zero (fin ys hy)
    | succ j ih =>
      intro i ys hi hy
      refine CompRest.succ ?_
      rintro v I oI C oC D m₂ h tk E' ⟨c, u, hc, rfl⟩ hC hx F N off ne
      refine LCgL.ld_own N (List.mem_cons_of_mem _ List.mem_cons_self) hC hx ?_ (show (compEnvC scope cl C env).scope.kind = .function from by first | exact hk | (simp [compEnvC, relabel, hk])) (hl C) hd
      refine ⟨h, tk, news, rfl, F, N, off, rfl, ih (i + 1) _ (by omega) ?_⟩
      rw [List.take_add_one, KBw.ints_get hc]
      exact IntsAre.append hy (.cons _ u .nil)
  exact key b.size 0 [] (by omega) (by simpa using IntsAre.nil)
theorem bytes_block {iter : Expr} {x : Str} {px px' : Pos} {scope : Scope} {cl : List (Str × Addr)} {pos : Pos} {b : Array UInt8} {t : Tok} {news : List (Addr × Obj)} {RR : Value → Addr → Result → Shared → Prop}
    (hh : A.handled = none) (hsz : b.size ≤ sizeLine) (hcell : ∀ y ∈ scope.names, y.2 ≠ .cell) (hkind : scope.kind = .function) (hx : scope.names.lookup x = some .local)
    (hl : ∀ C, (compEnvC scope cl C env).kindOf x = some .local) (hd : (x == ("__debug__" : Str)) = false)
    (F : Fr h₀ L s.heap m) (N : News h₀ L s.heap news)
    (hRR : ∀ D C h tk m' ys, Fr h₀ L h m → News h₀ L h ((D, lst ys) :: news) → Off1 D news → h.Ns C m' → h₀.get? C = none → h₀.get? D = none → C ≠ L → D ≠ L → C ≠ D → (∀ p ∈ news, p.1 ≠ C) → IntsAre ys (KBw.bInts b) → RR (.ref D) C (.ok .next) { s with heap := h, toks := tk }) :
    wpAny (model prog w) A (pyIter (.bytes b t)) (fun it s₂ => wpAny (model prog w) A (newList []) (fun acc s₃ => wpAny (model prog w) A (newFunctionEnv scope env.globals cl [] env.qual none .none (some env)) (fun cenv s₄ =>
      codeAny (model prog w) A (.compStart (.ListComp (.Name x px') [⟨.Name x px, iter, [], 0⟩] scope pos) 0 it acc { cenv with scope := relabel scope env }) (RR acc cenv.locals) s₄) E s₃) E s₂) E s := by
  refine KBw.pyIter_bytes ?_
  refine block_U (S := fun nx => nx = news) (Fin := fun ys nx => IntsAre ys (KBw.bInts b) ∧ nx = news) (KBw.walks hh s.heap.objs.size b t) hsz (fun i h st => by obtain ⟨o, e, _⟩ := st; exact ⟨o, e⟩) (fun i h h' o nw st e e' _ _ _ => ?_) hcell hkind hx
    ⟨_, Heap.get?_push_size _ rfl, rfl, rfl⟩ (fun b' hb => ?_) (F.push _) (fun p hp => ⟨Heap.get?_push_of_some _ (N p hp).1, (N p hp).2⟩) (Nat.ne_of_lt F.ns.lt) (next_is_new F) (fun p hp => Nat.ne_of_lt (Heap.lt_size (N p hp).1)) rfl
    (bytes_rest hkind hl hd fun ys hy => ⟨hy, rfl⟩) ?_
  · obtain ⟨o', q, r⟩ := st
    rw [e] at q; cases q
    exact ⟨o, e', r⟩
  · rw [List.mem_singleton.mp hb]
    show s.heap.objs.size < (s.heap.push _).objs.size
    rw [Heap.size_push]; exact Nat.lt_succ_self _
  · rintro D C h tk m' ys news' F' N' o1 hn hC₀ hD₀ hCL hDL hCD offC ⟨hy, rfl⟩
    exact hRR D C h tk m' ys F' N' o1 hn hC₀ hD₀ hCL hDL hCD offC hy
/-- what the source must give -/
def BytesSrc (h₀ : Heap) (L : Addr) (m : Str → Option Value) (Fin : Addr → List Value → List (Addr × Obj) → Heap → Nat → Shared → Prop) (mf : Addr → Str → Option Value) (xv : Value) (s₁ : Shared) : Prop :=
  ∃ b t news, xv = .bytes b t ∧ Fr h₀ L s₁.heap m ∧ News h₀ L s₁.heap news ∧ b.size ≤ sizeLine ∧
    ∀ D ys h tk, Fr h₀ L h (mf D) → News h₀ L h ((D, lst ys) :: news) → Off1 D news → IntsAre ys (KBw.bInts b) → Fin D ys news h tk s₁
theorem ListComp_bytesP {iter : Expr} {x : Str} {px px' : Pos} {scope : Scope} {cl : List (Str × Addr)} {pos : Pos} {Q : Value → Shared → Prop} (hh : A.handled = none)
    (hclos : closureFor scope env = pure cl) (hcell : ∀ y ∈ scope.names, y.2 ≠ .cell) (hkind : scope.kind = .function)
    (hnames : ∀ y ∈ scope.names, y.2 = .local → scope.names.lookup y.1 = some .local) (hx : scope.names.lookup x = some .local)
    (hl : ∀ C, (compEnvC scope cl C env).kindOf x = some .local) (hd : (x == ("__debug__" : Str)) = false)
    (h : wpP (model prog w) A (eval iter env) (BytesSrc h₀ L m (fun D _ _ h tk s₁ => Q (.ref D) { s₁ with heap := h, toks := tk }) (fun _ => m)) E s)
    (hs : ∀ x, foldedSetIterable iter env x = pure x := by intro _; rfl) :
    wpP (model prog w) A (eval (.ListComp (.Name x px') [⟨.Name x px, iter, [], 0⟩] scope pos) env) Q E s := by
  rw [eval_ListComp]
  refine wpP_comp (wpP_mono h (fun xv s₁ h₁ => ?_) fun _ _ e => e)
  obtain ⟨b, t, news, rfl, F, N, hsz, fin⟩ := h₁
  refine wpAny_comprehension_free (use := none) rfl hs hclos hkind hnames (wpAny_pure ?_)
  refine bytes_block hh hsz hcell hkind hx hl hd F N ?_
  intro D C h tk m' ys F' N' o1 hn hC₀ hD₀ hCL hDL hCD offC hy
  refine ⟨m', hn, fun h'' hs'' => fin D ys h'' tk (F'.change hs'' hCL hC₀) (fun p hp => ?_) o1 hy⟩
  refine ⟨hs''.extBut _ _ ?_ (N' p hp).1, (N' p hp).2⟩
  rcases List.mem_cons.mp hp with rfl | hp
  · exact Ne.symm hCD
  · exact offC p hp
theorem Assign_bytesP {iter : Expr} {x y : Str} {px px' py : Pos} {scope : Scope} {cl : List (Str × Addr)} {pos spos : Pos} {Q : Flow → Shared → Prop} (hh : A.handled = none)
    (hsw : swapsWith (.ListComp (.Name x px') [⟨.Name x px, iter, [], 0⟩] scope pos) (some (.Name y py)) spos.line env = pure true)
    (hclos : closureFor scope env = pure cl) (hcell : ∀ y ∈ scope.names, y.2 ≠ .cell) (hkind : scope.kind = .function)
    (hnames : ∀ y ∈ scope.names, y.2 = .local → scope.names.lookup y.1 = some .local) (hx : scope.names.lookup x = some .local)
    (hl : ∀ C, (compEnvC scope cl C env).kindOf x = some .local) (hd : (x == ("__debug__" : Str)) = false)
    (hy : env.kindOf y = some .local) (hp : (env.scope.kind == .class || (env.scope.kind == .module && env.locals != env.globals)) = false)
    (h : wpP (model prog w) A (eval iter env) (BytesSrc h₀ env.locals m (fun _ _ _ h tk s₁ => Q .next { s₁ with heap := h, toks := tk }) (fun D z => if z = y then some (.ref D) else m z)) E s)
    (hs : ∀ x, foldedSetIterable iter env x = pure x := by intro _; rfl) :
    wpP (model prog w) A (exec (.Assign [.Name y py] (.ListComp (.Name x px') [⟨.Name x px, iter, [], 0⟩] scope pos) spos) env) Q E s := by
  rw [exec_Assign_Name_used _ _ _ _ hsw]
  refine wpP_bind (wpP_of (wpAny_standAt (wpP_bind ?_)))
  show wpP _ A (do let _ ← comprehension (.ListComp (.Name x px') [⟨.Name x px, iter, [], 0⟩] scope pos) scope env _ (newList []) false (eval iter env) (some (assign (.Name y py) env))) _ _ s
  refine wpP_bind (wpP_mono (wpP_comp (Q := fun _ s' => Q .next s') (wpP_mono h (fun xv s₁ h₁ => ?_) fun _ _ e => e)) (fun _ s' hq => wpP_pure (wpP_pure hq)) fun _ _ e => e)
  obtain ⟨b, t, news, rfl, F, N, hsz, fin⟩ := h₁
  refine wpAny_comprehension_free (use := some (assign (.Name y py) env)) rfl hs hclos hkind hnames (wpAny_pure ?_)
  refine bytes_block hh hsz hcell hkind hx hl hd F N ?_
  intro D C h' tk m' ys F' N' o1 hn hC₀ hD₀ hCL hDL hCD offC hys
  show wpAny _ A (assign (.Name y py) env (.ref D)) _ _ _
  refine wpAny_assign_Name (wpAny_storeName_local hy F'.ns (fun h₂ hn₂ hs₂ => ?_) hp)
  have hL₀ : h₀.get? env.locals = none := Heap.get?_none_of_le F'.above
  have F₂ : Fr h₀ env.locals h₂ (fun z => if z = y then some (.ref D) else m z) := ⟨hn₂, fun b o e => hs₂.extBut b o (fun q => by rw [q, hL₀] at e; cases e) (F'.keep b o e), F'.above⟩
  refine ⟨m', hn.sameBut hs₂ hCL, fun h'' hs'' => fin D ys h'' _ (F₂.change hs'' hCL hC₀) (fun p hp => ?_) o1 hys⟩
  refine ⟨hs''.extBut _ _ ?_ (hs₂.extBut _ _ (N' p hp).2.1 (N' p hp).1), (N' p hp).2⟩
  rcases List.mem_cons.mp hp with rfl | hp
  · exact Ne.symm hCD
  · exact offC p hp
end
end
end
section
section
theorem fn_at {K : Frag} {f : Addr} {h : Heap} (hf : fnIn K f = true) (X : K.In h) : ∃ o fd, h.get? f = some o ∧ o.data = .func fd := by
  unfold fnIn at hf
  split at hf
  · rename_i e
    exact ⟨_, _, X _ _ e, rfl⟩
  · cases hf
section
variable {M : Model} {A : Around} {E : Value → Shared → Prop} {s : Shared} {env : Env}
theorem callWith_fnP {pos : Pos} {a : Addr} {first : List Value} {args : List (Bool × Sem Value)} {keywords : List (Option Str × Sem Value)} {Q : Value → Shared → Prop}
    (h : wpAny M A (evalArgs (.ref a) true args keywords) (fun x s₁ => (∃ o fd, s₁.heap.get? a = some o ∧ o.data = .func fd) ∧ wpP M A (call (.ref a) (first ++ x.pos) x.kw) Q E s₁) E s) :
    wpP M A (callWith pos (.ref a) first args keywords) Q E s := by
  unfold callWith
  refine wpP_bind (wpP_holding (wpP_mono (wpP_of h) (fun x s₁ h₁ => wpP_bind (wpP_of (wpAny_standAt ?_))) fun _ _ x => x))
  obtain ⟨⟨o, fd, ho, hfd⟩, h₂⟩ := h₁
  have tail : ∀ {t : Sem Value}, wpP M A t Q E s₁ → wpP M A (t >>= fun r => holding [r] point >>= fun _ => pure r) Q E s₁ :=
    fun ht => wpP_bind (wpP_mono ht (fun r s₂ hr => wpP_of (wpAny_bind (wpAny_holding (wpAny_point (wpAny_pure hr))))) fun _ _ x => x)
  cases hs : (args.any (·.1) || keywords.any (·.1.isNone)) <;>
    refine wpP_bind (wpP_of (t := keeperOf (.ref a)) ?_) <;> unfold keeperOf <;>
    refine wpAny_bind (wpAny_load ho ?_) <;> rw [hfd] <;> refine wpAny_pure ?_
  all_goals
    (try dsimp only)
    (try split)
    all_goals first
      | exact tail h₂
      | (refine tail ?_; unfold callMarked; exact wpP_keep h₂)
      | exact wpP_ift (by assumption) (tail h₂)
theorem callWith_KP {K : Frag} {pos : Pos} {a : Addr} {first : List Value} {e : Expr} {rest : List Expr} {Q : Value → Shared → Prop} (hf : fnIn K a = true)
    (h : wpAny M A (spliced (backTo pos (starEach (e :: rest) env))) (fun vs s₁ => K.In s₁.heap ∧ wpP M A (call (.ref a) (first ++ vs)) Q E s₁) E s)
    (he : starEach (e :: rest) env = (false, eval e env) :: starEach rest env := by rfl) :
    wpP M A (callWith pos (.ref a) first (backTo pos (starEach (e :: rest) env)) []) Q E s := by
  refine callWith_fnP ?_
  rw [he] at h ⊢
  exact evalArgs_plain (wpAny_mono h (fun vs s₁ h₁ => ⟨fn_at hf h₁.1, h₁.2⟩) fun _ _ e => e)
end
end
section
section
variable {M : Model} {A : Around} {E : Value → Shared → Prop} {s : Shared} {env : Env}
theorem wpP_isTrue_Compare {l op r pos whole} {Q : Bool → Shared → Prop}
    (h : wpP M A (eval l env) (fun a s₁ => wpAny M A (eval r env) (fun b s₂ => wpAny M A (compareOp op a b) (fun c s₃ => wpAny M A (truthy c) Q E s₃) E s₂) E s₁) E s)
    (hm : behindInMarks op r = false := by with_unfolding_all rfl) : wpP M A (isTrue (.Compare l [op] [r] pos) env whole) Q E s := by
  rw [isTrue_Compare1]
  refine wpP_bind (wpP_mono h (fun a s₁ h₁ Γ p hΓ _ => ?_) fun _ _ e => e)
  simp only [markedBehindIn_of_false hm, Sem.wp_bind', Sem.wp_holding, Sem.wp_cmd_standAt, Sem.wp_operate]
  exact Sem.wp_mono M Γ _ (fun b _ s₂ h₂ => Sem.wp_mono M Γ _ (fun c p₃ s₃ h₃ => h₃ Γ p₃ hΓ) (fun _ _ _ h' => h') _ _ (h₂ Γ _ hΓ)) (fun _ _ _ h' => h') _ _ (h₁ Γ p hΓ)
theorem wpP_If {test body orelse pos} {Q : Flow → Shared → Prop}
    (h : wpP M A (isTrue test env (eval test env)) (fun b s₂ => if b then wpP M A (execs body env) Q E s₂ else wpP M A (execs orelse env) Q E s₂) E s) :
    wpP M A (exec (.If test body orelse pos) env) Q E s := fun Γ p hΓ ok => by
  simp only [exec_If, Sem.wp_bind', Sem.wp_cmd_standAt]
  refine Sem.wp_mono M Γ _ (fun b p₂ s₂ h₂ => ?_) (fun _ _ _ h' => h') _ _ (h Γ _ hΓ ok)
  cases b <;> exact h₂ Γ p₂ hΓ ok
theorem wpP_isTrue_Or2 {x y : Expr} {pos : Pos} {whole : Sem Value} {Q : Bool → Shared → Prop}
    (h : wpAny M A (isTrue x env (eval x env)) (fun b s₁ => if b then Q true s₁ else wpP M A (isTrue y env (eval y env)) Q E s₁) E s) :
    wpP M A (isTrue (.BoolOp .Or [x, y] pos) env whole) Q E s := by
  show wpP M A (do match BoolOp.Or, ← isTrue x env (eval x env) with | .And, false => pure false | .Or, true => pure true | _, _ => allTrue .Or [y] env) Q E s
  refine wpP_bind (wpP_mono (wpP_of h) (fun b s₁ h₁ => ?_) fun _ _ e => e)
  cases b with
  | true => exact wpP_pure h₁
  | false =>
    show wpP M A (do match BoolOp.Or, ← isTrue y env (eval y env) with | .And, false => pure false | .Or, true => pure true | _, _ => allTrue .Or [] env) Q E s₁
    refine wpP_bind (wpP_mono (show wpP M A (isTrue y env (eval y env)) Q E s₁ from h₁) (fun b s₂ h₂ => ?_) fun _ _ e => e)
    cases b <;> exact wpP_pure h₂
end
end
end
section
section
theorem stE7 : ∀ {w : World} {mean : ExcName → Option Value} {mg mb : Str → Option Value} {g : Heap} {L fa : Addr} {cd : Value} {s : Shared} {Q : Flow → Shared → Prop} {R : Result → Shared → Prop} {lo lt : Addr} {vo vt : List Value} {co ct : Nat} {xs ys : List Int} {m : Str → Option Value} {c1 c2 : Addr} {oc1 oc2 : Obj} {vs1 vs2 : Array Value} {tk1 tk2 : Tok},
      (Below callerA g [] g) →
      (Fr g L s.heap (fun z => if z = Str.ofString "one" then some (.ref lo) else if z = Str.ofString "other" then some (.ref lt) else m z)) →
      ((hd.heap_39 w.params).In g) →
      (News g L s.heap ((lt, W.listOf vt.toArray ct) :: (lo, W.listOf vo.toArray co) :: [(37, tab2 c2), (c2, oc2), (30, tab1 c1), (c1, oc1)])) →
      (Top topProg LL mean mg mb g) →
      (CodeHd g 41 37) →
      (CodeHd g 34 30) →
      (IntsAre vo xs) →
      (IntsAre vt ys) →
      (2 ≤ xs.length) →
      (xs.length ≤ 9) →
      (ys.length = xs.length) →
      (∀ x ∈ xs, 0 ≤ x ∧ x < 20) →
      (∀ y ∈ ys, 0 ≤ y ∧ y < 20) →
      (Tabs c1 c2 oc1 oc2 vs1 vs2 tk1 tk2) →
      (∀ (l7 : Addr) (v7 : List Value) h' tk', Fr g L h' (fun z => if z = Str.ofString "turned" then some (.ref l7) else if z = Str.ofString "one" then some (.ref lo) else if z = Str.ofString "other" then some (.ref lt) else m z) → News g L h' ((l7, LCg.lst v7) :: ((lt, W.listOf vt.toArray ct) :: (lo, W.listOf vo.toArray co) :: [(37, tab2 c2), (c2, oc2), (30, tab1 c1), (c1, oc1)])) → IntsAre v7 ys.reverse →
        wpP (model PySem.Challenge.rw_gs0003_01.row.prog w) (lawA (lawE L fa cd)) (execs (lawB.drop 8) (lawE L fa cd)) Q (fun e s' => wpAny (model PySem.Challenge.rw_gs0003_01.row.prog w) (lawA (lawE L fa cd)) (leaving (lawE L fa cd) e) (fun _ s'' => R (.error e) s'') (fun e' s'' => R (.error e') s'') s') { s with heap := h', toks := tk' }) →
      wpP (model PySem.Challenge.rw_gs0003_01.row.prog w) (lawA (lawE L fa cd)) (execs (lawB.drop 7) (lawE L fa cd)) Q (fun e s' => wpAny (model PySem.Challenge.rw_gs0003_01.row.prog w) (lawA (lawE L fa cd)) (leaving (lawE L fa cd) e) (fun _ s'' => R (.error e) s'') (fun e' s'' => R (.error e') s'') s') s := by
  k_fill
  w_top off
  k_with_none
  k_with "enter" => (first | (refine' code_defL ?k1 ?k2 ?k3 ?k4 ?k5 ?kA ?kF ?kK ?k6 ?k7 ?k8 ?k9 ?kB ?_ ?c2 ?c3 ?c4 ?c5; (case kA => exact rfl); (case kF => exact rfl); (case kK => assumption); (case k1 => k_asm); (case k2 => k_asm); (case k3 => k_asm); (case k4 => k_asm); (case k5 => k_asm); (case k6 => k_is); (case k7 => k_is); (case k8 => k_room); (case k9 => exact BindsTo.of_eq rfl); (case c5 => decide); (case kB => exact locs rfl); (case c2 => exact rfl); (case c3 => exact rfl); (case c4 => exact rfl); k_whole; intro g' L' h' FG' F' N' B' X' T' l1; (try k_lt l1); (try dsimp only); (try k_lift B'); (try k_fold)) | (refine' code_defC ?k1 ?k2 ?k3 ?k4 ?k5 ?kA ?kF ?kK ?k6 ?k7 ?k8 ?k9 ?kB ?kD ?_ ?c2 ?c3 ?c4; (case kA => exact rfl); (case kF => exact rfl); (case kK => assumption); (case k1 => k_asm); (case k2 => k_asm); (case k3 => k_asm); (case k4 => k_asm); (case k5 => k_asm); (case k6 => k_is); (case k7 => k_is); (case k8 => k_room); (case k9 => exact BindsTo.of_eq rfl); (case kB => exact rfl); (case kD => decide +kernel); (case c2 => exact rfl); (case c3 => exact rfl); (case c4 => exact rfl); k_whole; intro g' L' h' tk' cells' FG' F' N' Y' B' X' T' l1; (try k_lt l1); k_cells Y'; (try simp only [List.cons_append, List.nil_append] at N'); (try dsimp only); (try k_lift B'); (try k_fold)))
  k_with "call builtin:divmod" => (k_here; k_dflt (refine' divmod_L ?k1 ?k2 ?k3 ?k4 ?_; (case k1 => k_asm); (case k2 => k_asm); (case k3 => omega); (case k4 => omega); k_whole); intro D' h' F' N' l1; (try k_lt l1); (try k_sweep))
  intro w mean mg mb g L fa cd s Q R lo lt vo vt co ct xs ys m c1 c2 oc1 oc2 vs1 vs2 tk1 tk2 B F X N T C1 C2 io it hx2 hx9 hxy hbx hby TB hret
  delta lawB lawE lawD getD
  dsimp only [List.drop]
  refine wpP_execs_cons ?_
  refine Assign_bytesP (h₀ := g) (m := (fun z => if z = Str.ofString "one" then some (.ref lo) else if z = Str.ofString "other" then some (.ref lt) else m z)) (by rfl) (by with_unfolding_all rfl) (by with_unfolding_all rfl) (by decide) (by rfl) (by decide) (by rfl) (fun C => rfl) (by decide) (by rfl) (by rfl) ?_
  refine wpP_Call rfl ?_
  k_steps
  refine callWith_KP (K := hd.heap_39 w.params) (by k_is) ?_
  k_steps
  refine' KBa.make_K F N ?zh (News.isList N ?zm) it ?zr ?zn ?_
  case zh => rfl
  case zm => (repeat (first | exact List.Mem.head _ | apply List.Mem.tail))
  case zr => (intro y hy; have := hby y hy; exact ⟨this.1, by omega⟩)
  case zn => omega
  intro h7 t7 tk7 F7 N7 r7
  clear F N
  (try dsimp only)
  k_steps
  refine' bsw B F7 X N7 T ?zk ?zhd ?zhu (KBa.ints_make r7) ?z0 ?z1 ?_
  case zk => rfl
  case zhd => cb_room
  case zhu => cb_units
  case z0 => omega
  case z1 => omega
  intro b9 t9 h9 tk9 F9 N9 hb9
  have hl9 := congrArg List.length hb9
  rw [KBw.ints_length, List.length_reverse] at hl9
  refine ⟨b9, t9, _, rfl, F9, N9, by rw [PySem.sizeLine_eq]; omega, fun D v h tk F' N' o1 hy => ?_⟩
  exact hret D v h tk F' N' (hb9 ▸ hy)
end
end
section
section
theorem stE8 : ∀ {w : World} {mean : ExcName → Option Value} {mg mb : Str → Option Value} {g : Heap} {L fa : Addr} {cd : Value} {s : Shared} {Q : Flow → Shared → Prop} {R : Result → Shared → Prop} {lo lt : Addr} {vo vt : List Value} {co ct : Nat} {xs ys : List Int} {m : Str → Option Value} {c1 c2 : Addr} {oc1 oc2 : Obj} {vs1 vs2 : Array Value} {tk1 tk2 : Tok} {l7 : Addr} {v7 : List Value},
      (Below callerA g [] g) →
      (Fr g L s.heap (fun z => if z = Str.ofString "turned" then some (.ref l7) else if z = Str.ofString "one" then some (.ref lo) else if z = Str.ofString "other" then some (.ref lt) else m z)) →
      ((hd.heap_39 w.params).In g) →
      (News g L s.heap ((l7, LCg.lst v7) :: ((lt, W.listOf vt.toArray ct) :: (lo, W.listOf vo.toArray co) :: [(37, tab2 c2), (c2, oc2), (30, tab1 c1), (c1, oc1)]))) →
      (Top topProg LL mean mg mb g) →
      (CodeHd g 41 37) →
      (CodeHd g 34 30) →
      (IntsAre vo xs) →
      (IntsAre vt ys) →
      (2 ≤ xs.length) →
      (xs.length ≤ 9) →
      (ys.length = xs.length) →
      (∀ x ∈ xs, 0 ≤ x ∧ x < 20) →
      (∀ y ∈ ys, 0 ≤ y ∧ y < 20) →
      (Tabs c1 c2 oc1 oc2 vs1 vs2 tk1 tk2) →
      (IntsAre v7 ys.reverse) →
      (∀ h' tk', Fr g L h' (fun z => if z = Str.ofString "turned" then some (.ref l7) else if z = Str.ofString "one" then some (.ref lo) else if z = Str.ofString "other" then some (.ref lt) else m z) → News g L h' ((l7, LCg.lst v7) :: ((lt, W.listOf vt.toArray ct) :: (lo, W.listOf vo.toArray co) :: [(37, tab2 c2), (c2, oc2), (30, tab1 c1), (c1, oc1)])) →
        wpP (model PySem.Challenge.rw_gs0003_01.row.prog w) (lawA (lawE L fa cd)) (execs (lawB.drop 9) (lawE L fa cd)) Q (fun e s' => wpAny (model PySem.Challenge.rw_gs0003_01.row.prog w) (lawA (lawE L fa cd)) (leaving (lawE L fa cd) e) (fun _ s'' => R (.error e) s'') (fun e' s'' => R (.error e') s'') s') { s with heap := h', toks := tk' }) →
      wpP (model PySem.Challenge.rw_gs0003_01.row.prog w) (lawA (lawE L fa cd)) (execs (lawB.drop 8) (lawE L fa cd)) Q (fun e s' => wpAny (model PySem.Challenge.rw_gs0003_01.row.prog w) (lawA (lawE L fa cd)) (leaving (lawE L fa cd) e) (fun _ s'' => R (.error e) s'') (fun e' s'' => R (.error e') s'') s') s := by
  k_fill
  w_top off
  k_with_none
  k_with "enter" => (first | (refine' code_defL ?k1 ?k2 ?k3 ?k4 ?k5 ?kA ?kF ?kK ?k6 ?k7 ?k8 ?k9 ?kB ?_ ?c2 ?c3 ?c4 ?c5; (case kA => exact rfl); (case kF => exact rfl); (case kK => assumption); (case k1 => k_asm); (case k2 => k_asm); (case k3 => k_asm); (case k4 => k_asm); (case k5 => k_asm); (case k6 => k_is); (case k7 => k_is); (case k8 => k_room); (case k9 => exact BindsTo.of_eq rfl); (case c5 => decide); (case kB => exact locs rfl); (case c2 => exact rfl); (case c3 => exact rfl); (case c4 => exact rfl); k_whole; intro g' L' h' FG' F' N' B' X' T' l1; (try k_lt l1); (try dsimp only); (try k_lift B'); (try k_fold)) | (refine' code_defC ?k1 ?k2 ?k3 ?k4 ?k5 ?kA ?kF ?kK ?k6 ?k7 ?k8 ?k9 ?kB ?kD ?_ ?c2 ?c3 ?c4; (case kA => exact rfl); (case kF => exact rfl); (case kK => assumption); (case k1 => k_asm); (case k2 => k_asm); (case k3 => k_asm); (case k4 => k_asm); (case k5 => k_asm); (case k6 => k_is); (case k7 => k_is); (case k8 => k_room); (case k9 => exact BindsTo.of_eq rfl); (case kB => exact rfl); (case kD => decide +kernel); (case c2 => exact rfl); (case c3 => exact rfl); (case c4 => exact rfl); k_whole; intro g' L' h' tk' cells' FG' F' N' Y' B' X' T' l1; (try k_lt l1); k_cells Y'; (try simp only [List.cons_append, List.nil_append] at N'); (try dsimp only); (try k_lift B'); (try k_fold)))
  k_with "call builtin:divmod" => (k_here; k_dflt (refine' divmod_L ?k1 ?k2 ?k3 ?k4 ?_; (case k1 => k_asm); (case k2 => k_asm); (case k3 => omega); (case k4 => omega); k_whole); intro D' h' F' N' l1; (try k_lt l1); (try k_sweep))
  intro w mean mg mb g L fa cd s Q R lo lt vo vt co ct xs ys m c1 c2 oc1 oc2 vs1 vs2 tk1 tk2 l7 v7 B F X N T C1 C2 io it hx2 hx9 hxy hbx hby TB i7 hret
  delta lawB lawE lawD getD
  dsimp only [List.drop]
  refine wpP_execs_cons (wpP_If (wpP_isTrue_Or2 ?_))
  k_steps
  rename Fr _ _ _ _ => lF
  rename News _ _ _ _ => lN
  refine wpP_isTrue_Compare (ListComp_bytesP (h₀ := g) (L := L) (m := (fun z => if z = Str.ofString "turned" then some (.ref l7) else if z = Str.ofString "one" then some (.ref lo) else if z = Str.ofString "other" then some (.ref lt) else m z)) (by rfl) (by with_unfolding_all rfl) (by decide) (by rfl) (by decide) (by rfl) (fun C => rfl) (by decide) (wpP_Call rfl ?_))
  k_steps
  refine callWith_KP (K := hd.heap_39 w.params) (by k_is) ?_
  k_steps
  refine' KBa.make_K lF lN ?zh (News.isList lN ?zm) i7 ?zr ?zn ?_
  case zh => rfl
  case zm => (repeat (first | exact List.Mem.head _ | apply List.Mem.tail))
  case zr => (intro y hy; have := hby y (List.mem_reverse.mp hy); exact ⟨this.1, by omega⟩)
  case zn => (rw [List.length_reverse]; omega)
  intro h7 t7 tk7 F7 N7 r7
  clear lF lN
  (try dsimp only)
  k_steps
  refine' bsw B F7 X N7 T ?zk ?zhd ?zhu (KBa.ints_make r7) ?z0 ?z1 ?_
  case zk => rfl
  case zhd => cb_room
  case zhu => cb_units
  case z0 => (rw [List.length_reverse]; omega)
  case z1 => (rw [List.length_reverse]; omega)
  intro b9 t9 h9 tk9 F9 N9 hb9
  rw [List.reverse_reverse] at hb9
  have hl9 := congrArg List.length hb9
  rw [KBw.ints_length] at hl9
  refine ⟨b9, t9, _, rfl, F9, N9, by rw [PySem.sizeLine_eq]; omega, fun D v h tk F' N' o1 hy => ?_⟩
  rw [hb9] at hy
  clear F9 N9 F7 N7 hb9
  (try dsimp only)
  k_steps
  refine wpP_of (wpAny_execs_nil ?_)
  exact hret _ _ F' (cb_drop N' (by kcj_all))
end
end
section
section
theorem stE9 : ∀ {w : World} {mean : ExcName → Option Value} {mg mb : Str → Option Value} {g : Heap} {L fa : Addr} {cd : Value} {s : Shared} {Q : Flow → Shared → Prop} {R : Result → Shared → Prop} {lo lt : Addr} {vo vt : List Value} {co ct : Nat} {xs ys : List Int} {m : Str → Option Value} {c1 c2 : Addr} {oc1 oc2 : Obj} {vs1 vs2 : Array Value} {tk1 tk2 : Tok} {l7 : Addr} {v7 : List Value},
      (Below callerA g [] g) →
      (Fr g L s.heap (fun z => if z = Str.ofString "turned" then some (.ref l7) else if z = Str.ofString "one" then some (.ref lo) else if z = Str.ofString "other" then some (.ref lt) else m z)) →
      ((hd.heap_39 w.params).In g) →
      (News g L s.heap ((l7, LCg.lst v7) :: ((lt, W.listOf vt.toArray ct) :: (lo, W.listOf vo.toArray co) :: [(37, tab2 c2), (c2, oc2), (30, tab1 c1), (c1, oc1)]))) →
      (Top topProg LL mean mg mb g) →
      (CodeHd g 41 37) →
      (CodeHd g 34 30) →
      (IntsAre vo xs) →
      (IntsAre vt ys) →
      (2 ≤ xs.length) →
      (xs.length ≤ 9) →
      (ys.length = xs.length) →
      (∀ x ∈ xs, 0 ≤ x ∧ x < 20) →
      (∀ y ∈ ys, 0 ≤ y ∧ y < 20) →
      (Tabs c1 c2 oc1 oc2 vs1 vs2 tk1 tk2) →
      (IntsAre v7 ys.reverse) →
      (∀ t9 h' tk', Fr g L h' (fun z => if z = Str.ofString "whole" then some (.int (ys.sum * ((ys.length : Int) + 1) % 11) t9) else if z = Str.ofString "turned" then some (.ref l7) else if z = Str.ofString "one" then some (.ref lo) else if z = Str.ofString "other" then some (.ref lt) else m z) → News g L h' ((l7, LCg.lst v7) :: ((lt, W.listOf vt.toArray ct) :: (lo, W.listOf vo.toArray co) :: [(37, tab2 c2), (c2, oc2), (30, tab1 c1), (c1, oc1)])) →
        wpP (model PySem.Challenge.rw_gs0003_01.row.prog w) (lawA (lawE L fa cd)) (execs (lawB.drop 10) (lawE L fa cd)) Q (fun e s' => wpAny (model PySem.Challenge.rw_gs0003_01.row.prog w) (lawA (lawE L fa cd)) (leaving (lawE L fa cd) e) (fun _ s'' => R (.error e) s'') (fun e' s'' => R (.error e') s'') s') { s with heap := h', toks := tk' }) →
      wpP (model PySem.Challenge.rw_gs0003_01.row.prog w) (lawA (lawE L fa cd)) (execs (lawB.drop 9) (lawE L fa cd)) Q (fun e s' => wpAny (model PySem.Challenge.rw_gs0003_01.row.prog w) (lawA (lawE L fa cd)) (leaving (lawE L fa cd) e) (fun _ s'' => R (.error e) s'') (fun e' s'' => R (.error e') s'') s') s := by
  k_fill
  w_top off
  k_with_none
  k_with "enter" => (first | (refine' code_defL ?k1 ?k2 ?k3 ?k4 ?k5 ?kA ?kF ?kK ?k6 ?k7 ?k8 ?k9 ?kB ?_ ?c2 ?c3 ?c4 ?c5; (case kA => exact rfl); (case kF => exact rfl); (case kK => assumption); (case k1 => k_asm); (case k2 => k_asm); (case k3 => k_asm); (case k4 => k_asm); (case k5 => k_asm); (case k6 => k_is); (case k7 => k_is); (case k8 => k_room); (case k9 => exact BindsTo.of_eq rfl); (case c5 => decide); (case kB => exact locs rfl); (case c2 => exact rfl); (case c3 => exact rfl); (case c4 => exact rfl); k_whole; intro g' L' h' FG' F' N' B' X' T' l1; (try k_lt l1); (try dsimp only); (try k_lift B'); (try k_fold)) | (refine' code_defC ?k1 ?k2 ?k3 ?k4 ?k5 ?kA ?kF ?kK ?k6 ?k7 ?k8 ?k9 ?kB ?kD ?_ ?c2 ?c3 ?c4; (case kA => exact rfl); (case kF => exact rfl); (case kK => assumption); (case k1 => k_asm); (case k2 => k_asm); (case k3 => k_asm); (case k4 => k_asm); (case k5 => k_asm); (case k6 => k_is); (case k7 => k_is); (case k8 => k_room); (case k9 => exact BindsTo.of_eq rfl); (case kB => exact rfl); (case kD => decide +kernel); (case c2 => exact rfl); (case c3 => exact rfl); (case c4 => exact rfl); k_whole; intro g' L' h' tk' cells' FG' F' N' Y' B' X' T' l1; (try k_lt l1); k_cells Y'; (try simp only [List.cons_append, List.nil_append] at N'); (try dsimp only); (try k_lift B'); (try k_fold)))
  k_with "call builtin:divmod" => (k_here; k_dflt (refine' divmod_L ?k1 ?k2 ?k3 ?k4 ?_; (case k1 => k_asm); (case k2 => k_asm); (case k3 => omega); (case k4 => omega); k_whole); intro D' h' F' N' l1; (try k_lt l1); (try k_sweep))
  intro w mean mg mb g L fa cd s Q R lo lt vo vt co ct xs ys m c1 c2 oc1 oc2 vs1 vs2 tk1 tk2 l7 v7 B F X N T C1 C2 io it hx2 hx9 hxy hbx hby TB i7 hret
  delta lawB lawE lawD getD
  dsimp only [List.drop]
  obtain ⟨d1, v1', d2, v2', _⟩ := id TB
  have hy9 : ys.length ≤ 9 := by omega
  have hb9 := sum_mul_bd hby hy9
  refine wpP_head ?_
  repeat' ((fail_if_success (with_reducible show wpAny _ _ (call (Value.ref 56) [Value.int _ _, Value.int _ _]) _ _ _)); (first | (k_unfold; (try dsimp only)) | (k_end; wrow_close) | walk1 | (dsimp only; walk1) | (leave1; walk_say "STEP leave1"; try dsimp only) | fail "no step"))
  rename News _ _ _ _ => lN
  rename Fr _ _ _ _ => lF
  refine' idm B lF X lN T ?zk C1 C2 ?ze1 ?ze2 ?ze3 ?ze4 d1 v1' d2 v2' ?zhd ?zhu (by omega) (by omega) (Or.inr rfl) ?_
  case zk => rfl
  case ze1 => (repeat (first | exact List.Mem.head _ | apply List.Mem.tail))
  case ze2 => (repeat (first | exact List.Mem.head _ | apply List.Mem.tail))
  case ze3 => (repeat (first | exact List.Mem.head _ | apply List.Mem.tail))
  case ze4 => (repeat (first | exact List.Mem.head _ | apply List.Mem.tail))
  case zhd => cb_room
  case zhu => cb_units
  clear lN lF
  intro q9 r9 ta9 tb9 c9 D9 h9 tk9 F9 N9 l9 f9
  obtain ⟨hq9, hr9⟩ : _ ∧ _ := f9
  subst hq9 hr9
  (try k_lt l9)
  (try dsimp only)
  k_steps
  exact hret _ _ _ (by assumption) (cb_drop (by assumption) (by kcj_all))
end
end
section
section
theorem stE10 : ∀ {w : World} {mean : ExcName → Option Value} {mg mb : Str → Option Value} {g : Heap} {L fa : Addr} {cd : Value} {s : Shared} {Q : Flow → Shared → Prop} {R : Result → Shared → Prop} {lo lt : Addr} {vo vt : List Value} {co ct : Nat} {xs ys : List Int} {m : Str → Option Value} {c1 c2 : Addr} {oc1 oc2 : Obj} {vs1 vs2 : Array Value} {tk1 tk2 : Tok} {l7 : Addr} {v7 : List Value} {tw : Tok},
      (Below callerA g [] g) →
      (Fr g L s.heap (fun z => if z = Str.ofString "whole" then some (.int (ys.sum * ((ys.length : Int) + 1) % 11) tw) else if z = Str.ofString "turned" then some (.ref l7) else if z = Str.ofString "one" then some (.ref lo) else if z = Str.ofString "other" then some (.ref lt) else m z)) →
      ((hd.heap_39 w.params).In g) →
      (News g L s.heap ((l7, LCg.lst v7) :: ((lt, W.listOf vt.toArray ct) :: (lo, W.listOf vo.toArray co) :: [(37, tab2 c2), (c2, oc2), (30, tab1 c1), (c1, oc1)]))) →
      (Top topProg LL mean mg mb g) →
      (CodeHd g 41 37) →
      (CodeHd g 34 30) →
      (IntsAre vo xs) →
      (IntsAre vt ys) →
      (2 ≤ xs.length) →
      (xs.length ≤ 9) →
      (ys.length = xs.length) →
      (∀ x ∈ xs, 0 ≤ x ∧ x < 20) →
      (∀ y ∈ ys, 0 ≤ y ∧ y < 20) →
      (Tabs c1 c2 oc1 oc2 vs1 vs2 tk1 tk2) →
      (IntsAre v7 ys.reverse) →
      ((places ys.reverse + places ys - ys.sum * ((ys.length : Int) + 1) % 11) % 11 = 0) →
      (∀ h' tk', Fr g L h' (fun z => if z = Str.ofString "whole" then some (.int (ys.sum * ((ys.length : Int) + 1) % 11) tw) else if z = Str.ofString "turned" then some (.ref l7) else if z = Str.ofString "one" then some (.ref lo) else if z = Str.ofString "other" then some (.ref lt) else m z) → News g L h' ((l7, LCg.lst v7) :: ((lt, W.listOf vt.toArray ct) :: (lo, W.listOf vo.toArray co) :: [(37, tab2 c2), (c2, oc2), (30, tab1 c1), (c1, oc1)])) →
        wpP (model PySem.Challenge.rw_gs0003_01.row.prog w) (lawA (lawE L fa cd)) (execs (lawB.drop 11) (lawE L fa cd)) Q (fun e s' => wpAny (model PySem.Challenge.rw_gs0003_01.row.prog w) (lawA (lawE L fa cd)) (leaving (lawE L fa cd) e) (fun _ s'' => R (.error e) s'') (fun e' s'' => R (.error e') s'') s') { s with heap := h', toks := tk' }) →
      wpP (model PySem.Challenge.rw_gs0003_01.row.prog w) (lawA (lawE L fa cd)) (execs (lawB.drop 10) (lawE L fa cd)) Q (fun e s' => wpAny (model PySem.Challenge.rw_gs0003_01.row.prog w) (lawA (lawE L fa cd)) (leaving (lawE L fa cd) e) (fun _ s'' => R (.error e) s'') (fun e' s'' => R (.error e') s'') s') s := by
  k_fill
  w_top off
  k_with_none
  k_with "enter" => (first | (refine' code_defL ?k1 ?k2 ?k3 ?k4 ?k5 ?kA ?kF ?kK ?k6 ?k7 ?k8 ?k9 ?kB ?_ ?c2 ?c3 ?c4 ?c5; (case kA => exact rfl); (case kF => exact rfl); (case kK => assumption); (case k1 => k_asm); (case k2 => k_asm); (case k3 => k_asm); (case k4 => k_asm); (case k5 => k_asm); (case k6 => k_is); (case k7 => k_is); (case k8 => k_room); (case k9 => exact BindsTo.of_eq rfl); (case c5 => decide); (case kB => exact locs rfl); (case c2 => exact rfl); (case c3 => exact rfl); (case c4 => exact rfl); k_whole; intro g' L' h' FG' F' N' B' X' T' l1; (try k_lt l1); (try dsimp only); (try k_lift B'); (try k_fold)) | (refine' code_defC ?k1 ?k2 ?k3 ?k4 ?k5 ?kA ?kF ?kK ?k6 ?k7 ?k8 ?k9 ?kB ?kD ?_ ?c2 ?c3 ?c4; (case kA => exact rfl); (case kF => exact rfl); (case kK => assumption); (case k1 => k_asm); (case k2 => k_asm); (case k3 => k_asm); (case k4 => k_asm); (case k5 => k_asm); (case k6 => k_is); (case k7 => k_is); (case k8 => k_room); (case k9 => exact BindsTo.of_eq rfl); (case kB => exact rfl); (case kD => decide +kernel); (case c2 => exact rfl); (case c3 => exact rfl); (case c4 => exact rfl); k_whole; intro g' L' h' tk' cells' FG' F' N' Y' B' X' T' l1; (try k_lt l1); k_cells Y'; (try simp only [List.cons_append, List.nil_append] at N'); (try dsimp only); (try k_lift B'); (try k_fold)))
  k_with "call builtin:divmod" => (k_here; k_dflt (refine' divmod_L ?k1 ?k2 ?k3 ?k4 ?_; (case k1 => k_asm); (case k2 => k_asm); (case k3 => omega); (case k4 => omega); k_whole); intro D' h' F' N' l1; (try k_lt l1); (try k_sweep))
  intro w mean mg mb g L fa cd s Q R lo lt vo vt co ct xs ys m c1 c2 oc1 oc2 vs1 vs2 tk1 tk2 l7 v7 tw B F X N T C1 C2 io it hx2 hx9 hxy hbx hby TB i7 hp5 hret
  delta lawB lawE lawD getD
  dsimp only [List.drop]
  obtain ⟨d1, v1', d2, v2', _⟩ := id TB
  have hy9 : ys.length ≤ 9 := by omega
  have hr9 : ys.reverse.length ≤ 12 := by rw [List.length_reverse]; omega
  have hby9 : ∀ i : Nat, 0 ≤ ys.getD i 0 ∧ ys.getD i 0 < 20 := getD_bd (by decide) hby
  have hbr9 : ∀ i : Nat, 0 ≤ ys.reverse.getD i 0 ∧ ys.reverse.getD i 0 < 20 := getD_bd (by decide) fun y hy => hby y (List.mem_reverse.mp hy)
  refine wpP_head ?_
  repeat' ((fail_if_success (with_reducible show wpAny _ _ (call (Value.ref 75) [Value.ref _]) _ _ _)); (first | (k_unfold; (try dsimp only)) | (k_end; wrow_close) | walk1 | (dsimp only; walk1) | (leave1; walk_say "STEP leave1"; try dsimp only) | fail "no step"))
  rename News _ _ _ _ => lN
  rename Fr _ _ _ _ => lF
  refine' plc B lF X lN T ?zk C1 C2 ?ze1 ?ze2 ?ze3 ?ze4 d1 v1' d2 v2' ?zg ?zhd ?zhu i7 hr9 hbr9 ?_
  case zk => rfl
  case ze1 => (repeat (first | exact List.Mem.head _ | apply List.Mem.tail))
  case ze2 => (repeat (first | exact List.Mem.head _ | apply List.Mem.tail))
  case ze3 => (repeat (first | exact List.Mem.head _ | apply List.Mem.tail))
  case ze4 => (repeat (first | exact List.Mem.head _ | apply List.Mem.tail))
  case zg => (repeat (first | exact List.Mem.head _ | apply List.Mem.tail))
  case zhd => cb_room
  case zhu => cb_units
  clear lN lF
  intro t7 h7 tk7 F7 N7
  (try dsimp only)
  repeat' ((fail_if_success (with_reducible show wpAny _ _ (call (Value.ref 75) [Value.ref _]) _ _ _)); (first | (k_unfold; (try dsimp only)) | (k_end; wrow_close) | walk1 | (dsimp only; walk1) | (leave1; walk_say "STEP leave1"; try dsimp only) | fail "no step"))
  rename News _ _ _ _ => lN
  rename Fr _ _ _ _ => lF
  refine' plc B lF X lN T ?zk C1 C2 ?ze1 ?ze2 ?ze3 ?ze4 d1 v1' d2 v2' ?zg ?zhd ?zhu it (by omega) hby9 ?_
  case zk => rfl
  case ze1 => (repeat (first | exact List.Mem.head _ | apply List.Mem.tail))
  case ze2 => (repeat (first | exact List.Mem.head _ | apply List.Mem.tail))
  case ze3 => (repeat (first | exact List.Mem.head _ | apply List.Mem.tail))
  case ze4 => (repeat (first | exact List.Mem.head _ | apply List.Mem.tail))
  case zg => (repeat (first | exact List.Mem.head _ | apply List.Mem.tail))
  case zhd => cb_room
  case zhu => cb_units
  clear lN lF
  intro t8 h8 tk8 F8 N8
  (try dsimp only)
  have hb1 := places_bd ys.reverse
  have hb2 := places_bd ys
  have hw1 : 0 ≤ ys.sum * ((ys.length : Int) + 1) % 11 ∧ ys.sum * ((ys.length : Int) + 1) % 11 < 11 := ⟨Int.emod_nonneg _ (by decide), Int.emod_lt_of_pos _ (by decide)⟩
  repeat' ((fail_if_success (with_reducible show wpAny _ _ (call (Value.ref 56) [Value.int _ _, Value.int _ _]) _ _ _)); (first | (k_unfold; (try dsimp only)) | (k_end; wrow_close) | walk1 | (dsimp only; walk1) | (leave1; walk_say "STEP leave1"; try dsimp only) | fail "no step"))
  rename News _ _ _ _ => lN
  rename Fr _ _ _ _ => lF
  refine' idm B lF X lN T ?zk C1 C2 ?ze1 ?ze2 ?ze3 ?ze4 d1 v1' d2 v2' ?zhd ?zhu (by omega) (by omega) (Or.inr rfl) ?_
  case zk => rfl
  case ze1 => (repeat (first | exact List.Mem.head _ | apply List.Mem.tail))
  case ze2 => (repeat (first | exact List.Mem.head _ | apply List.Mem.tail))
  case ze3 => (repeat (first | exact List.Mem.head _ | apply List.Mem.tail))
  case ze4 => (repeat (first | exact List.Mem.head _ | apply List.Mem.tail))
  case zhd => cb_room
  case zhu => cb_units
  clear lN lF
  intro q9 r9 ta9 tb9 c9 D9 h9 tk9 F9 N9 l9 f9
  obtain ⟨hq9, hr9⟩ : _ ∧ _ := f9
  subst hq9 hr9
  (try k_lt l9)
  (try dsimp only)
  k_steps
  all_goals first
    | (exfalso; have hne : (places ys.reverse + places ys - ys.sum * ((ys.length : Int) + 1) % 11) % 11 ≠ 0 := (by with_reducible assumption); exact hne hp5)
    | exact hret _ _ (by assumption) (cb_drop (by assumption) (by kcj_all))
end
end
section
section
theorem stE11 : ∀ {w : World} {mean : ExcName → Option Value} {mg mb : Str → Option Value} {g : Heap} {L fa : Addr} {cd : Value} {s : Shared} {Q : Flow → Shared → Prop} {R : Result → Shared → Prop} {lo lt : Addr} {vo vt : List Value} {co ct : Nat} {xs ys : List Int} {m : Str → Option Value} {c1 c2 : Addr} {oc1 oc2 : Obj} {vs1 vs2 : Array Value} {tk1 tk2 : Tok} {l7 : Addr} {v7 : List Value} {tw : Tok},
      (Below callerA g [] g) →
      (Fr g L s.heap (fun z => if z = Str.ofString "whole" then some (.int (ys.sum * ((ys.length : Int) + 1) % 11) tw) else if z = Str.ofString "turned" then some (.ref l7) else if z = Str.ofString "one" then some (.ref lo) else if z = Str.ofString "other" then some (.ref lt) else m z)) →
      ((hd.heap_39 w.params).In g) →
      (News g L s.heap ((l7, LCg.lst v7) :: ((lt, W.listOf vt.toArray ct) :: (lo, W.listOf vo.toArray co) :: [(37, tab2 c2), (c2, oc2), (30, tab1 c1), (c1, oc1)]))) →
      (Top topProg LL mean mg mb g) →
      (CodeHd g 41 37) →
      (CodeHd g 34 30) →
      (IntsAre vo xs) →
      (IntsAre vt ys) →
      (2 ≤ xs.length) →
      (xs.length ≤ 9) →
      (ys.length = xs.length) →
      (∀ x ∈ xs, 0 ≤ x ∧ x < 20) →
      (∀ y ∈ ys, 0 ≤ y ∧ y < 20) →
      (Tabs c1 c2 oc1 oc2 vs1 vs2 tk1 tk2) →
      (IntsAre v7 ys.reverse) →
      (luhn ([0] ++ xs) = 0) →
      (luhn ([1] ++ xs) ≠ 0) →
      (∀ m' h' tk', Fr g L h' m' → News g L h' ((l7, LCg.lst v7) :: ((lt, W.listOf vt.toArray ct) :: (lo, W.listOf vo.toArray co) :: [(37, tab2 c2), (c2, oc2), (30, tab1 c1), (c1, oc1)])) → Q (.ret (.bool true)) { s with heap := h', toks := tk' }) →
      wpP (model PySem.Challenge.rw_gs0003_01.row.prog w) (lawA (lawE L fa cd)) (execs (lawB.drop 11) (lawE L fa cd)) Q (fun e s' => wpAny (model PySem.Challenge.rw_gs0003_01.row.prog w) (lawA (lawE L fa cd)) (leaving (lawE L fa cd) e) (fun _ s'' => R (.error e) s'') (fun e' s'' => R (.error e') s'') s') s := by
  k_fill
  w_top off
  k_with_none
  k_with "enter" => (first | (refine' code_defL ?k1 ?k2 ?k3 ?k4 ?k5 ?kA ?kF ?kK ?k6 ?k7 ?k8 ?k9 ?kB ?_ ?c2 ?c3 ?c4 ?c5; (case kA => exact rfl); (case kF => exact rfl); (case kK => assumption); (case k1 => k_asm); (case k2 => k_asm); (case k3 => k_asm); (case k4 => k_asm); (case k5 => k_asm); (case k6 => k_is); (case k7 => k_is); (case k8 => k_room); (case k9 => exact BindsTo.of_eq rfl); (case c5 => decide); (case kB => exact locs rfl); (case c2 => exact rfl); (case c3 => exact rfl); (case c4 => exact rfl); k_whole; intro g' L' h' FG' F' N' B' X' T' l1; (try k_lt l1); (try dsimp only); (try k_lift B'); (try k_fold)) | (refine' code_defC ?k1 ?k2 ?k3 ?k4 ?k5 ?kA ?kF ?kK ?k6 ?k7 ?k8 ?k9 ?kB ?kD ?_ ?c2 ?c3 ?c4; (case kA => exact rfl); (case kF => exact rfl); (case kK => assumption); (case k1 => k_asm); (case k2 => k_asm); (case k3 => k_asm); (case k4 => k_asm); (case k5 => k_asm); (case k6 => k_is); (case k7 => k_is); (case k8 => k_room); (case k9 => exact BindsTo.of_eq rfl); (case kB => exact rfl); (case kD => decide +kernel); (case c2 => exact rfl); (case c3 => exact rfl); (case c4 => exact rfl); k_whole; intro g' L' h' tk' cells' FG' F' N' Y' B' X' T' l1; (try k_lt l1); k_cells Y'; (try simp only [List.cons_append, List.nil_append] at N'); (try dsimp only); (try k_lift B'); (try k_fold)))
  k_with "call builtin:divmod" => (k_here; k_dflt (refine' divmod_L ?k1 ?k2 ?k3 ?k4 ?_; (case k1 => k_asm); (case k2 => k_asm); (case k3 => omega); (case k4 => omega); k_whole); intro D' h' F' N' l1; (try k_lt l1); (try k_sweep))
  intro w mean mg mb g L fa cd s Q R lo lt vo vt co ct xs ys m c1 c2 oc1 oc2 vs1 vs2 tk1 tk2 l7 v7 tw B F X N T C1 C2 io it hx2 hx9 hxy hbx hby TB i7 hp6 hp7 hret
  delta lawB lawE lawD getD
  dsimp only [List.drop]
  obtain ⟨d1, v1', d2, v2', _⟩ := id TB
  have hl1 : ([1] ++ xs).length ≤ 12 := by rw [List.length_append]; simp only [List.length_singleton]; omega
  have hl0 : ([0] ++ xs).length ≤ 12 := by rw [List.length_append]; simp only [List.length_singleton]; omega
  have hb0 : ∀ i : Nat, 0 ≤ ([0] ++ xs).getD i 0 ∧ ([0] ++ xs).getD i 0 < 20 := getD_bd (by decide) (fun x hx => (List.mem_append.mp hx).elim (fun h => by rw [List.mem_singleton.mp h]; decide) (hbx x))
  have hb1 : ∀ i : Nat, 0 ≤ ([1] ++ xs).getD i 0 ∧ ([1] ++ xs).getD i 0 < 20 := getD_bd (by decide) (fun x hx => (List.mem_append.mp hx).elim (fun h => by rw [List.mem_singleton.mp h]; decide) (hbx x))
  refine wpP_head ?_
  repeat' ((fail_if_success (with_reducible show wpAny _ _ (call (Value.ref 70) [Value.ref _]) _ _ _)); (first | (k_unfold; (try dsimp only)) | (k_end; wrow_close) | walk1 | (dsimp only; walk1) | (leave1; walk_say "STEP leave1"; try dsimp only) | fail "no step"))
  rename IntsAre _ _ => hI
  rename News _ _ _ _ => lN
  rename Fr _ _ _ _ => lF
  refine' dbl B lF X lN T ?zk C1 C2 ?ze1 ?ze2 ?ze3 ?ze4 d1 v1' d2 v2' ?zg ?zhd ?zhu hI hl0 hb0 ?_
  case zk => rfl
  case ze1 => (repeat (first | exact List.Mem.head _ | apply List.Mem.tail))
  case ze2 => (repeat (first | exact List.Mem.head _ | apply List.Mem.tail))
  case ze3 => (repeat (first | exact List.Mem.head _ | apply List.Mem.tail))
  case ze4 => (repeat (first | exact List.Mem.head _ | apply List.Mem.tail))
  case zg => (repeat (first | exact List.Mem.head _ | apply List.Mem.tail))
  case zhd => cb_room
  case zhu => cb_units
  clear lN lF
  intro t7 h7 tk7 F7 N7
  (try dsimp only)
  repeat' ((fail_if_success (with_reducible show wpAny _ _ (call (Value.ref 70) [Value.ref _]) _ _ _)); (first | (k_unfold; (try dsimp only)) | (k_end; wrow_close) | walk1 | (dsimp only; walk1) | (leave1; walk_say "STEP leave1"; try dsimp only) | fail "no step"))
  · clear hI
    rename IntsAre _ _ => hI
    rename News _ _ _ _ => lN
    rename Fr _ _ _ _ => lF
    refine' dbl B lF X lN T ?zk C1 C2 ?ze1 ?ze2 ?ze3 ?ze4 d1 v1' d2 v2' ?zg ?zhd ?zhu hI hl1 hb1 ?_
    case zk => rfl
    case ze1 => (repeat (first | exact List.Mem.head _ | apply List.Mem.tail))
    case ze2 => (repeat (first | exact List.Mem.head _ | apply List.Mem.tail))
    case ze3 => (repeat (first | exact List.Mem.head _ | apply List.Mem.tail))
    case ze4 => (repeat (first | exact List.Mem.head _ | apply List.Mem.tail))
    case zg => (repeat (first | exact List.Mem.head _ | apply List.Mem.tail))
    case zhd => cb_room
    case zhu => cb_units
    clear lN lF
    intro t8 h8 tk8 F8 N8
    (try dsimp only)
    k_steps
    have e9 : (luhn ([1] ++ xs) != 0) = true := bne_iff_ne.mpr hp7
    rw [e9]
    exact hret _ _ _ (by assumption) (cb_drop (by assumption) (by kcj_all))
  · exfalso
    have hne : luhn ([0] ++ xs) ≠ 0 := (by with_reducible assumption)
    exact hne hp6
end
end
section
section
theorem nameR {M : Model} {A : Around} {c : Code} {R : Result → Shared → Prop} {s : Shared} (h : ∀ R', R' = R → codeP M A c R' s) : codeP M A c R s := h R rfl
theorem frTo {h₀ h : Heap} {L : Addr} {m m' : Str → Option Value} (F : Fr h₀ L h m) (e : ∀ y, m y = m' y) : Fr h₀ L h m' := by
  have : m = m' := funext e
  rw [← this]; exact F
theorem law_T : PySem.Challenge.rw_gs0003_01.Holds := by
  refine hd ?_
  k_fill
  intro w s₀ s₁ mg mb G Y fa o pm cd doc dV kV ho hd hcd hD hmg hg args vals as hpre hlay hrd hwl hlo
  have KX := km_in_of Y
  km_tabs Y
  have X := (Ground.X G).1
  have V := (Ground.X G).2
  refine Ground.open G ?_
  intro T B D TE TW
  try (refine guard_noD D (by decide +kernel) ?_; clear D)
  km_lay T hmg ho hd cd
  clear hmg
  wrow_args hpre hlay hrd hwl hlo
  refine enter_callP ?_
  w_top on
  refine postP hT9 (fun _ _ => rfl) ?_
  refine nameR fun R hR => ?_
  have he := Dflts.none hD rfl; subst he; have he := Dflts.noKw hD; subst he
  refine cellsP (by decide) ho (fd_plain hd) (Top.nolimit T) hcd rfl (kinds_of (by kinds_ok)) (by decide) fun h₁ tk₁ cells F N0 X0 => ?_
  cells_open X0
  clear hd
  kn_ghosts F T
  k_drop
  rename Fr _ _ _ _ => lF
  rename News _ _ _ _ => lN
  rename Below _ _ _ _ => lB
  rename Frag.In _ _ => lX
  rename Top _ _ _ _ _ _ => lT
  rename CodeHd _ 41 37 => lC1
  rename CodeHd _ 34 30 => lC2
  rename IntsAre _ _ => lI
  rename Heap.IsList _ _ _ => lL
  rename (¬ _) => lW
  rename (_ ∧ _) => l37
  rename (_ = Data.cell _) => lC
  refine stA0 (fa := fa) (cd := cd) (R := R) lB (frTo lF ?ze) lX lN lT lC1 lC2 ?zoc l37.1 l37.2 lL lI ?zlen ?_
  case zlen => omega
  case zoc => exact lC
  case ze =>
    intro y
    rfl
  intro lf vf cf oc' fs m0 h0 tk0 F0 N0 c0 i0 f1 f8 f10 n0
  refine stA1 lB F0 lX N0 lT lC1 lC2 c0 i0 f1 f8 f10 n0 l37.1 l37.2 ?_
  intro l1 v1 c1 c2 oc1 oc2 vs1 vs2 tk1 tk2 h1 tka F1 N1 TB i1
  refine stA2 lB F1 lX N1 lT lC1 lC2 c0 i0 f1 f8 f10 n0 l37.1 l37.2 TB ?_
  intro l2 v2 h2 tkb F2 N2 i2
  obtain ⟨ka, ka0, ka1, kz, kf⟩ := one_last fs
  obtain ⟨kb, kb0, kb1, kz2, kf2⟩ := one_last2 fs
  rw [kf] at i1
  rw [kf2] at i2
  refine stB (vs1 := vs1) (vs2 := vs2) (tk1 := tk1) (tk2 := tk2) lB F2 lX N2 lT lC1 lC2 c0 i0 f1 f8 f10 n0 l37.1 l37.2 i1 i2 ?_
  intro lo lt vo vt co ct m3 h3 tkc F3 o3 t3 N3 io it
  have h10 : ∀ x ∈ fs ++ [ka], 0 ≤ x ∧ x < 10 := fun x hx => (List.mem_append.mp hx).elim (f10 x) fun h => by rw [List.mem_singleton.mp h]; exact ⟨ka0, ka1⟩
  have h11 : ∀ x ∈ fs ++ [kb], 0 ≤ x ∧ x < 11 := fun x hx => (List.mem_append.mp hx).elim (fun h => by have := f10 x h; omega) fun h => by rw [List.mem_singleton.mp h]; exact ⟨kb0, kb1⟩
  have hbx : ∀ x ∈ fs ++ [ka], 0 ≤ x ∧ x < 20 := fun x hx => by have := h10 x hx; omega
  have hby : ∀ x ∈ fs ++ [kb], 0 ≤ x ∧ x < 20 := fun x hx => by have := h11 x hx; omega
  have lx : (fs ++ [ka]).length = fs.length + 1 := by rw [List.length_append, List.length_singleton]
  have ly : (fs ++ [kb]).length = fs.length + 1 := by rw [List.length_append, List.length_singleton]
  generalize fs ++ [ka] = xs at *
  generalize fs ++ [kb] = ys at *
  have hx2 : 2 ≤ xs.length := by omega
  have hx9 : xs.length ≤ 9 := by omega
  have hy9 : ys.length ≤ 9 := by omega
  have hxy : ys.length = xs.length := by omega
  refine stC lB (frIns (frIns F3 t3) o3) lX N3 lT lC1 lC2 io it hx2 hx9 hxy hbx hby TB (fact1 h10 kz) (fact2 h11 hy9 kz2) ?_
  intro u4 h4 tkd F4 N4
  refine stD lB F4 lX N4 lT lC1 lC2 io it hx2 hx9 hxy hbx hby TB (fact3 h10 kz) (fact4 h11 hy9 kz2) ?_
  intro u5 h5 tke F5 N5
  refine stE7 lB F5 lX N5 lT lC1 lC2 io it hx2 hx9 hxy hbx hby TB ?_
  intro l7 v7 h6 tkf F6 N6 i7
  refine stE8 lB F6 lX N6 lT lC1 lC2 io it hx2 hx9 hxy hbx hby TB i7 ?_
  intro h7 tkg F7 N7
  refine stE9 lB F7 lX N7 lT lC1 lC2 io it hx2 hx9 hxy hbx hby TB i7 ?_
  intro tw h8 tkh F8 N8
  refine stE10 lB F8 lX N8 lT lC1 lC2 io it hx2 hx9 hxy hbx hby TB i7 (fact5 ys) ?_
  intro h9 tki F9 N9
  refine stE11 lB F9 lX N9 lT lC1 lC2 io it hx2 hx9 hxy hbx hby TB i7 (fact6 kz) (fact7 kz) ?_
  intro m10 hz tkj FZ NZ
  rw [hR]
  have g37 : GrownAt 37 hz := ⟨_, (NZ (37, tab2 c2) (by (repeat (first | exact List.Mem.head _ | apply List.Mem.tail)))).1⟩
  have g30 : GrownAt 30 hz := ⟨_, (NZ (30, tab1 c1) (by (repeat (first | exact List.Mem.head _ | apply List.Mem.tail)))).1⟩
  refine ⟨?_, g37, g30, trivial⟩
  wrow_close
end
end
end Mine
end
theorem PySem.Challenge.cw_gs0003_01_holds : PySem.Challenge.rw_gs0003_01.Holds :=
  Mine.law_T
