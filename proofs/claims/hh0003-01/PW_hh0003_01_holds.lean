import PyProof.Rows.All
import Wide.All
import OpenK.AllK
import Wide.FinOn
import PySem.Challenge.RW_hh0003_01
set_option Elab.async false
section PartS1
open PySem PySem.W PyProof.Rows PySem.Calls
open PySem.Sem (wp)
namespace Mine
/-- the built-ins that could hold a bytearray while they call on -/
def badIds : List String := ["bytearray.__contains__", "bytearray.__mod__", "bytearray.__rmod__", "_struct.pack_into.held", "bytearray.find.held"] ++ Builtin.Bytes.decodersThatHold
def okCode : Code → Bool
  | .builtin id _ => !badIds.contains id
  | _ => true
def okBelow (l : List (Code × Pos)) : Prop := ∀ x ∈ l, okCode x.1 = true
def Ok (Γ : Ctx) : Prop := okCode Γ.code = true ∧ okBelow Γ.below
/-- as wpAny, over the stacks alone that hold none of those -/
def wpS {α : Type} (M : Model) (A : Around) (t : Sem α) (Q : α → Shared → Prop) (E : Value → Shared → Prop) (s : Shared) : Prop :=
  ∀ Γ p, Γ.In A → Ok Γ → wp M Γ t (fun a _ s' => Q a s') (fun e _ s' => E e s') p s
def codeS (M : Model) (A : Around) (c : Code) (R : Result → Shared → Prop) (s : Shared) : Prop :=
  ∀ Γ p, Γ.code = c → Γ.Below A → okBelow Γ.below → wpCode M Γ R p s
section
variable {α β : Type} {M : Model} {A : Around} {E : Value → Shared → Prop} {s : Shared}
theorem wpS_of {t : Sem α} {Q : α → Shared → Prop} (h : wpAny M A t Q E s) : wpS M A t Q E s := fun Γ p hΓ _ => h Γ p hΓ
theorem codeS_of {c : Code} {R : Result → Shared → Prop} (h : codeAny M A c R s) : codeS M A c R s := fun Γ p hc hΓ _ => h Γ p hc hΓ
theorem wpS_pure {a : α} {Q : α → Shared → Prop} (h : Q a s) : wpS M A (pure a) Q E s := fun _ _ _ _ => h
theorem wpS_mono {t : Sem α} {Q Q' : α → Shared → Prop} {E' : Value → Shared → Prop} (h : wpS M A t Q E s) (hQ : ∀ a s, Q a s → Q' a s) (hE : ∀ e s, E e s → E' e s) : wpS M A t Q' E' s :=
  fun Γ p hΓ hk => Sem.wp_mono M Γ t (fun a _ s => hQ a s) (fun e _ s => hE e s) p s (h Γ p hΓ hk)
theorem wpS_bind {m : Sem α} {f : α → Sem β} {Q : β → Shared → Prop} (h : wpS M A m (fun a s' => wpS M A (f a) Q E s') E s) : wpS M A (m >>= f) Q E s := fun Γ p hΓ hk => by
  rw [Sem.wp_bind']
  exact Sem.wp_mono M Γ m (fun a p' s' h' => h' Γ p' hΓ hk) (fun _ _ _ h' => h') p s (h Γ p hΓ hk)
/-- a piece that no one but itself looks at, then the rest -/
theorem wpS_first {m : Sem α} {f : α → Sem β} {Q : β → Shared → Prop} (h : wpAny M A m (fun a s' => wpS M A (f a) Q E s') E s) : wpS M A (m >>= f) Q E s := wpS_bind (wpS_of h)
theorem wpS_holding {vs : List Value} {m : Sem α} {Q : α → Shared → Prop} (h : wpS M A m Q E s) : wpS M A (holding vs m) Q E s :=
  fun Γ p hΓ hk => by rw [Sem.wp_holding]; exact h Γ p hΓ hk
theorem wpS_onRaise {m : Sem α} {k : Value → Sem Unit} {Q : α → Shared → Prop}
    (h : wpS M A m Q (fun e s' => wpS M A (k e) (fun _ s'' => E e s'') E s') s) : wpS M A (m.onRaise k) Q E s := fun Γ p hΓ hk => by
  rw [Sem.wp_onRaise]
  exact Sem.wp_mono M Γ m (fun _ _ _ h' => h') (fun e p' s' h' => h' Γ p' hΓ hk) p s (h Γ p hΓ hk)
theorem wpS_runValue {c : Code} {Q : Value → Shared → Prop}
    (hc : codeS M A c (fun r s' => match r with | .ok (.ret v) => Q v s' | .ok _ => False | .error e => E e s') s) :
    wpS M A (runValue c) Q E s := fun Γ p hΓ hk => by
  rw [Sem.wp_runValue]
  refine hc _ p rfl (hΓ.enter c none p (by intro x; cases x)) fun x hx => ?_
  rcases List.mem_cons.mp hx with rfl | hx
  · exact hk.1
  · exact hk.2 x hx
theorem wpS_run {c : Code} {h : Option Value} {Q : Flow → Shared → Prop}
    (hc : codeS M (A.mark h) c (fun r s' => match r with | .ok f => Q f s' | .error e => E e s') s) (hnb : h ≠ some byPass := by intro x; cases x) :
    wpS M A (run c h) Q E s := fun Γ p hΓ hk => by
  rw [Sem.wp_run]
  refine hc _ p rfl (hΓ.enter c h p hnb) fun x hx => ?_
  rcases List.mem_cons.mp hx with rfl | hx
  · exact hk.1
  · exact hk.2 x hx
theorem wpS_call {f : Value} {pos : List Value} {kw : List (Str × Value)} {Q : Value → Shared → Prop}
    (hc : codeS M A (.call f ⟨pos, kw⟩) (fun r s' => match r with | .ok (.ret v) => Q v s' | .ok _ => False | .error e => E e s') s) :
    wpS M A (call f pos kw) Q E s := wpS_runValue hc
theorem codeS_mono {c : Code} {R R' : Result → Shared → Prop} (h : codeS M A c R s) (hR : ∀ r s, R r s → R' r s) : codeS M A c R' s :=
  fun Γ p hc hΓ hk => wpCode_mono hR (h Γ p hc hΓ hk)
theorem codeS_of_tree {c : Code} {R : Result → Shared → Prop} (hk : okCode c = true)
    (h : wpS M (A.under c) (M.den c) (fun fin s' => match fin with | .done f => R (.ok f) s' | .again c' => c'.quiet = true ∧ codeS M A c' R s')
      (fun e s' => R (.error e) s') s) : codeS M A c R s := fun Γ p hc hΓ hb => by
  rw [wpCode_iff_wp, hc]
  refine Sem.wp_mono M Γ _ (fun fin p' s' h' => ?_) (fun _ _ _ h' => h') p s (h Γ p (hc ▸ hΓ.in) ⟨by rw [hc]; exact hk, hb⟩)
  cases fin with
  | done f => exact h'
  | again c' => exact ⟨h'.1, h'.2 (Γ.goto c') p' rfl (hΓ.goto c') hb⟩
theorem wpS_stack {Q : List (Code × Pos) → Shared → Prop} (h : ∀ st : List (Code × Pos), okBelow st → Q st s) : wpS M A stack Q E s := fun Γ p _ hk => by
  show Q ((Γ.code, p) :: Γ.below) s
  refine h _ fun x hx => ?_
  rcases List.mem_cons.mp hx with rfl | hx
  · exact hk.1
  · exact hk.2 x hx
end
section
variable {prog : Program} {w : World} {A : Around} {s : Shared}
theorem codeS_call_function {R : Result → Shared → Prop} {a : Addr} {args : Args} {o : Obj} {fd : FuncData} {body : List Stmt} (hroom : A.depth < recursionLimit)
    (ho : s.heap.get? a = some o) (hd' : o.data = .func fd) (hco : fd.scope.isCoroutine = false) (hgen : fd.scope.isGenerator = false) (hbody : fd.body = .stmts body) (hcd : s.heap.CodeRec fd.code fd.qualname)
    (h : wpAny (model prog w) A.in1 (bindArgs fd args) (fun binds s₁ =>
      wpAny (model prog w) A.in1 (newFunctionEnv fd.scope fd.globals fd.closure binds (fd.qualname ++ ".<locals>.") (some a) fd.code none fd.builtins)
        (fun env s₂ => s₂.heap.NoLimit ∧ codeS (model prog w) A (.func body env) R s₂) (fun e s' => R (.error e) s') s₁) (fun e s' => R (.error e) s') s) :
    codeS (model prog w) A (.call (.ref a) args) R s := by
  refine codeS_of_tree rfl (wpS_of ?_)
  show wpAny _ A.in1 (callAny (.ref a) args) _ _ s
  simp only [callAny]
  refine wpAny_bind (wpAny_load ho ?_)
  obtain ⟨c, oc, vs, tq, hc, hoc, hdc, hq⟩ := hcd
  simp only [hd', callFunction, hco, hgen, hbody, hc]
  rw [hc] at h
  refine wpAny_bind (m := field (.ref c) 1) (wpAny_field hoc hdc hq (wpAny_bind (wpAny_pure ?_)))
  exact wpAny_bind (wpAny_mono h (fun binds s₁ h₁ => wpAny_bind (wpAny_mono h₁ (fun env s₂ h₂ => wpAny_bind (wpAny_enterFrame h₂.1 hroom
    (wpAny_pure (And.intro rfl h₂.2)))) fun _ _ h' => h')) fun _ _ h' => h')
theorem codeS_func {R : Result → Shared → Prop} {body : List Stmt} {env : Env}
    (h : wpS (model prog w) (A.deeper env) (execs body env) (fun f s' => R (.ok (.ret (match f with | .ret v => v | _ => .none))) s')
      (fun e s' => wpAny (model prog w) (A.deeper env) (leaving env e) (fun _ s'' => R (.error e) s'') (fun e' s'' => R (.error e') s'') s') s) :
    codeS (model prog w) A (.func body env) R s := by
  refine codeS_of_tree rfl ?_
  show wpS _ (A.deeper env) (do point; match ← (execs body env).onRaise (leaving env) with | .ret v => ret v | _ => ret .none) _ _ s
  refine wpS_first (wpAny_point (wpS_bind (wpS_onRaise (wpS_mono h (fun f s' h' => ?_) fun e s' h' => ?_))))
  · cases f <;> exact wpS_pure h'
  · exact wpS_of h'
end
end Mine
end PartS1
section PartS2
open PySem PySem.W PyProof.Rows PySem.Calls
open PySem.Sem (wp)
namespace Mine
theorem wp_of_wpS_done {M : Model} {A : Around} {Γ : Ctx} {t : Sem Fin} {R : Result → Shared → Prop} {s : Shared} (hin : Γ.In A) (hok : Ok Γ)
    (h : wpS M A t (fun fin s' => ∃ f, fin = .done f ∧ R (.ok f) s') (fun e s' => R (.error e) s') s) (p : Pos) :
    wp M Γ t (Sem.finPost M Γ R) (fun e _ s' => R (.error e) s') p s := by
  refine Sem.wp_mono M Γ t (fun fin p' s' h' => ?_) (fun _ _ _ h' => h') p s (h Γ p hin hok)
  obtain ⟨f, rfl, hf⟩ := h'
  exact hf
theorem caller_ok : Ok (⟨.builtin "claim.caller" {}, none, none, [], none⟩ : Ctx) := ⟨by decide +kernel, fun _ h => nomatch h⟩
theorem thread_ends_S {prog : Program} {w : World} {t : Sem Fin} {s : Shared} {R : Result → Shared → Prop} (hreg : s.asleep)
    (h : wpS (model prog w) callerA t (fun fin s' => ∃ f, fin = .done f ∧ (R (.ok f) s' ∧ leftWithCleanup s'.gens = false)) (fun e s' => R (.error e) s' ∧ leftWithCleanup s'.gens = false) s) :
    ∃ n r s' s'', runN (denote table) prog w n s ⟨t, .builtin "claim.caller" {}, default, []⟩ = .halted (outcomeOf r) s' ∧
      schedN (denote table) prog w n (.single s ⟨t, .builtin "claim.caller" {}, default, []⟩) = .halted (outcomeOf r) s' ∧ s'.forget = s''.forget ∧ R r s'' := by
  obtain ⟨n, r, s₁, s₂, hs, hn, hfo, hR⟩ := wp_halts_full (M := model prog w) (R := R) hreg (wp_of_wpS_done (R := fun r s' => R r s' ∧ leftWithCleanup s'.gens = false) caller_in caller_ok h default)
  exact ⟨n, r, s₂, s₁, hn, hs, hfo, hR⟩
theorem callFrom_S {c : ClaimW} {tree : List Value → Sem Fin} {w : World} {s : Shared} {free : Addr → Prop} {gens : Prop} {kept : Heap → Prop} (hz : s.asleep) (hgens : s.gens = #[])
    (hspec : ∀ args, c.pre args = true → WData.layableAll args = true →
      ∀ ord : List DictEntry → List DictEntry, (∀ l, (ord l).Perm l) →
      ∃ vs s₁, layAllW c.records (classAt s.heap) w.params ord args s = some (vs, s₁) ∧
        wpS (model c.prog w) callerA (tree vs) (fun fin s' => ∃ f, fin = .done f ∧ (c.Ends s args vs s₁ (.ok f) s' ∧ s'.os = s.os ∧ AllBare s'.gens ∧ kept s'.heap))
          (fun e s' => c.Ends s args vs s₁ (.error e) s' ∧ s'.os = s.os ∧ AllBare s'.gens ∧ kept s'.heap) s₁) :
    c.CallFrom (fun vs => ⟨tree vs, .builtin "claim.caller" {}, default, []⟩) w free gens kept s := by
  intro args hpre hlay ord hord
  obtain ⟨vs, s₁, hlaid, hcode⟩ := hspec args hpre hlay ord hord
  have hal := layAllW_rest _ _ _ hlaid
  have h2 := wpS_mono hcode
    (Q' := fun fin s' => ∃ f, fin = .done f ∧ ((c.Ends s args vs s₁ (.ok f) s' ∧ s'.os = s.os ∧ kept s'.heap) ∧ leftWithCleanup s'.gens = false))
    (E' := fun e s' => (c.Ends s args vs s₁ (.error e) s' ∧ s'.os = s.os ∧ kept s'.heap) ∧ leftWithCleanup s'.gens = false)
    (fun fin s' ⟨f, e, h1, h2, h3, h4⟩ => ⟨f, e, ⟨h1, h2, h4⟩, leftWithCleanup_false_of_bare h3⟩)
    (fun e s' ⟨h1, h2, h3, h4⟩ => ⟨⟨h1, h2, h4⟩, leftWithCleanup_false_of_bare h3⟩)
  obtain ⟨k, r, s', s'', hrun, hsched, hfo, hcase, hos, hkp⟩ := thread_ends_S (prog := c.prog) (w := w) (t := tree vs) (s := s₁)
    (R := fun r s' => c.Ends s args vs s₁ r s' ∧ s'.os = s.os ∧ kept s'.heap) (Shared.asleep_of_life hal.2.2.2 hz) h2
  obtain ⟨eh, _, _, eo, _⟩ := Shared.forget_eq hfo
  have hcase' : c.Ends s args vs s₁ r s' := hcase.congr eh
  have hkp' : kept s'.heap := by rw [eh]; exact hkp
  have hos' : s'.os = s.os := eo.trans hos
  have hlife : s'.heap.life = s.heap.life := (runN_life _ _ _ hrun).trans hal.2.2.2
  refine ⟨vs, s₁, hlaid, k, _, s', hsched, ?_, (fun _ i x hx => by rw [hgens] at hx; simp at hx), hkp', by rw [hlife], Shared.rest_eq hos'⟩
  rcases hcase' with ⟨v, rfl, d1, d2, d3, d4, d5⟩ | ⟨e, ob, cls, rfl, d1, d2, d3, d4, d5⟩
  · exact .inl ⟨v, rfl, d1, d2, d3, fun b o y _ => d4 b o y, d5⟩
  · exact .inr ⟨e, ob, cls, rfl, d1, d2, d3, d4, fun b o y _ => d5 b o y⟩
abbrev WalkS (q : Program) (loose : List Str) (XP : (Str → Option Value) → Heap → Prop) (YP : World → Heap → Prop) (r : RowW) (d : DefRec) (kwd : List (Str × Expr)) : Prop :=
  ∀ (w : World) (s₀ s₁ : Shared) (mg mb : Str → Option Value), Ground q loose r.records XP w s₀ mg mb s₁.heap → YP w s₁.heap → ∀ (a : Addr) (o : Obj) (pm cd doc dV kV : Value), s₁.heap.get? a = some o →
    o.data = .func { docDef d.name d.params d.body d.scope pm cd doc with defaults := dV, kwdefaults := kV } → s₁.heap.CodeRec cd d.name → Dflts mg s₁.heap d.params kwd dV kV → mg d.name = some (.ref a) → s₁.gens = #[] →
    ∀ (args : List WData) (vals : List Value) (as : List Addr), r.claim.pre args = true → WData.layableAll args = true → ReadsAllW r.records (classAt s₀.heap) s₁.heap vals args as → WellAll w.params s₁.heap vals args → (∀ a ∈ as, (a == sysModules) = false) →
      wpS (model r.prog w) callerA (call (.ref a) vals) (fun v s' => GoodWG r.claim (classAt s₀.heap) (ExcName.means s₀.heap) args s₁ (.ok (.ret v)) s')
        (fun e s' => GoodWG r.claim (classAt s₀.heap) (ExcName.means s₀.heap) args s₁ (.error e) s') s₁
theorem PySem.W.holds_open {r : OpenRow} {q : Program} {loose : List Str} {Xt : Shared → Bool} {XP : (Str → Option Value) → Heap → Prop} {α : Type} {Yf : Shared → α} {Ya : World → α} {YP : World → Heap → Prop} {d : DefRec} {kwd : List (Str × Expr)} {N : Nat}
    (left : LeftO r.prog q loose Xt Yf Ya N) (hY : ∀ w s, Yf s = Ya w → YP w s.heap) (hYk : ∀ w h h', YP w h → (∀ b o, h.get? b = some o → h'.get? b = some o) → YP w h')
    (hX : ∀ s, Xt s = true → XP (s.heap.nsMap mainGlobals) s.heap) (hXk : ∀ mg h h', XP mg h → (∀ b o, h.get? b = some o → h'.get? b = some o) → XP mg h')
    (hdef : defOf q r.name = some (d, kwd)) (hp : r.prog.theDef r.name = some (d.params, d.body, d.scope)) (hk : kwWritten? d.params.kwonlyargs d.params.kw_defaults = some kwd) (hRf : ∀ s, Xt s = true → RecFacts r.records s.heap) (hwr : (!r.writes || r.records.isEmpty) = true)
    (k1 : r.wellSaid = true) (ok : (chainsOk q && opensWell r.prog && (frees r.toRowW && r.within.isEmpty)) = true) (hb : r.prog.bare) (hw : r.toRowW.promised)
    (call : WalkS q loose XP YP r.toRowW d kwd) : r.Holds := by
  refine ⟨k1, hw, ?_⟩
  obtain ⟨ok, k5⟩ := Bool.and_eq_true_iff.mp ok
  obtain ⟨hch, o1⟩ := Bool.and_eq_true_iff.mp ok
  obtain ⟨k5, k6⟩ := Bool.and_eq_true_iff.mp k5
  obtain ⟨hsame, hu, ha, hap, hm⟩ := frees_parts k5
  refine ⟨⟨hb, o1, by show r.toRowW.makers.map _ = []; rw [hm]; rfl⟩, hw.witness, fun w => ⟨(left.behind hX hch w).1, fun s' hs' => ?_⟩⟩
  obtain ⟨s₀, hf, hg0, s, hT, hz, hgens, hg, G00, y⟩ := (left.behind (XP := fun mg h => XP mg h ∧ RecFacts r.records h) (fun s hs => ⟨hX s hs, hRf s hs⟩) hch w).2 s' hs'
  have G0 : Ground q loose [] XP w s (s.heap.nsMap mainGlobals) (s.heap.nsMap builtinsNs) s.heap := ⟨G00.T, G00.B, G00.D, G00.TE, G00.TD, G00.W, G00.X.1, G00.cls, G00.has, G00.apart, G00.once, G00.K⟩
  have RF := G00.X.2
  refine ⟨s₀, hf, hg0, s, hT, fun n hn => ?_, RF.1, RF.2.1, ?_⟩
  · obtain rfl : n = r.name := by split at hn <;> simp_all
    exact pinned_of_view hg G0 hdef hp hk
  have hgens : s.gens = #[] := Array.eq_empty_of_size_eq_zero (beq_iff_eq.mp hgens)
  have G : Ground q loose r.records XP w s _ _ s.heap := RF.ground G0
  refine callFrom_S (c := r.toRowW.claim) hz hgens fun args hpre hlay ord hord => ?_
  obtain ⟨⟨vs, s₁⟩, hlaid⟩ := Option.isSome_iff_exists.mp (layAllW_isSome (P := w.params) (ord := ord) G.has args r.args s (pre_splitW hpre).1)
  have keeps := layAllW_keeps _ _ _ hlaid
  have hal := layAllW_rest _ _ _ hlaid
  obtain ⟨as, hrd, hin, hold⟩ := reads_layAllW hord _ _ _ hlaid hlay s₁.heap (fun _ _ e => e)
  have L : Laid r.records w s s₁ args vs as := ⟨⟨ord, hord, hlaid⟩, hrd, hin, hold, keeps, hal.1.trans hgens, hal.2.2.1⟩
  have G₁ := G.keeps hXk keeps
  have hi := ident_freeW hu ha hap
  have hwi : r.toRowW.claim.within = [] := List.isEmpty_iff.mp k6
  obtain ⟨a, o, pm, cd, doc, dV, kV, h1, h2, h3, h4, h5⟩ := G₁.fn hdef
  have hc := call w s s₁ _ _ G₁ (hYk _ _ _ (hY w s y) keeps) a o pm cd doc dV kV h2 h3 h4 h5 (defOf_name hdef ▸ h1) L.gens args vs as hpre hlay L.reads L.well (L.low G.low)
  have good : ∀ (kps : List Str) (rr : Result) (s' : Shared), GoodWG r.toRowW.claim (classAt s.heap) (ExcName.means s.heap) args s₁ rr s' → r.toRowW.claim.Ends s args vs s₁ rr s' ∧ s'.os = s.os ∧ AllBare s'.gens ∧
      (r.writes = true → namesKept r.toRowW.claim.prog kps s.heap s'.heap ∧ ∀ x ∈ r.toRowW.claim.records, ∀ a, classAt s.heap x.1 = some a → recordClass s'.heap a x.1 (x.2.map (·.1)) = true) := fun kps rr s' g =>
    have z := g.laid (c := r.toRowW.claim) hsame hwi hi L
    ⟨z.1, z.2.1, z.2.2, fun q => ⟨namesKept_of hT hg kps keeps g.2.1.old, noTable hwr q⟩⟩
  refine ⟨vs, s₁, hlaid, wpS_first (wpAny_nsGet G₁.T.g ?_)⟩
  rw [h1]
  exact wpS_bind (wpS_mono hc (fun v s' g => wpS_pure ⟨_, rfl, good _ _ _ g⟩) fun e s' g => good _ _ _ g)
end Mine
end PartS2
section PartHdS
open PySem PySem.W PyProof.Rows
namespace Mine
set_option maxRecDepth 100000 in
set_option maxHeartbeats 8000000 in
open_top hd for PySem.Challenge.rw_hh0003_01
end Mine
end PartHdS
theorem Mine.calm : True := by
  w_top off
  trivial
section PartS3
open PySem PySem.W PyProof.Rows PySem.Calls
open PySem.Sem (wp)
set_option maxRecDepth 100000
namespace Mine
theorem slot_ba_init : Slot "bytearray" "__init__" "bytearray.__init__" :=
  .of (owner := "bytearray") (n := "__init__") (by rw [typeLookup_type, builtinLookup_eq_fast]; kernel_rfl) (by decide +kernel) (by decide +kernel) (by decide +kernel)
    (by first | exact .inl (by decide +kernel) | exact .inr (by decide +kernel)) (by rw [isSubtype_type]; kernel_rfl)
theorem mro_ba : mroOf (.type "bytearray") = pure [.type "bytearray", .type "object"] := by rw [mroOf_type]; kernel_rfl
theorem lookup_ba_new : typeLookup (.type "bytearray") "__new__" = pure (some (.builtin "bytearray.__new__")) := by rw [typeLookup_type, builtinLookup_eq_fast]; kernel_rfl
theorem called_ba : TypeCalled "bytearray" "bytearray.__new__" "bytearray.__init__" :=
  ⟨by decide +kernel, by decide +kernel, ⟨_, _, mro_ba⟩, madeBy_type mro_ba lookup_ba_new (by decide +kernel), by decide +kernel, by rw [isSubtype_type]; kernel_rfl, slot_ba_init⟩
theorem typeCall_ba (a : Value) : checkTypeCall "bytearray" ⟨[a], []⟩ = pure () := by kernel_rfl
theorem newCall_ba (a : Value) : checkBuiltinCall "bytearray.__new__" ⟨[.type "bytearray", a], []⟩ = pure () := by kernel_rfl
theorem entry_ba_new : entryFor table "bytearray.__new__" = some Builtin.«list.__new__» := entryFor_alias (id' := "list.__new__") (by kernel_rfl) rfl (by decide +kernel) (by kernel_rfl)
theorem entry_ba_init : entryFor table "bytearray.__init__" = some Builtin.«bytearray.__init__» := entryFor_of_tree (by kernel_rfl)
theorem plain_ba_new : plainId "bytearray.__new__" = true := by decide +kernel
theorem args_ba_init (a b : Value) : argsOk "bytearray.__init__" ⟨[a, b], []⟩ := by unfold argsOk; kernel_rfl
theorem sub_ba_self : isSubtype (.type "bytearray") (.type "bytearray") = pure true := by rw [isSubtype_type]; kernel_rfl
set_option maxRecDepth 1000000 in
set_option maxHeartbeats 4000000 in
theorem owner_ba_new : ("bytearray.__new__".splitOn ".__new__").headD "" = "bytearray" := by simp +decide [String.splitOn, String.splitOnAux]
abbrev baObj (b : Array UInt8) : Obj := { cls := .type "bytearray", data := .bytearray b }
section
variable {prog : Program} {w : World} {A : Around} {E : Value → Shared → Prop} {s : Shared}
theorem code_ba_new (a : Value) {Q₁ : Value → Shared → Prop}
    (h : Q₁ (.ref s.heap.objs.size) { s with heap := s.heap.push (baObj #[]) }) :
    codeAny (model prog w) A (.call (.builtin "bytearray.__new__") ⟨[.type "bytearray", a], []⟩) (wants Q₁ E) s := by
  refine codeAny_of_tree ?_
  show wpAny _ A.in1 (do checkBuiltinCall "bytearray.__new__" ⟨[.type "bytearray", a], []⟩; again (.builtin "bytearray.__new__" ⟨[.type "bytearray", a], []⟩)) _ _ s
  refine wpAny_bind (wpAny_of_eq (newCall_ba a) (wpAny_pure ⟨plainId_quiet plain_ba_new _, codeAny_builtin_stack entry_ba_new rfl fun p st => ?_⟩))
  rw [Around.under_plainId plain_ba_new _]
  have hsub := sub_ba_self
  have hown := owner_ba_new
  obtain ⟨hp, g, d, tk, os⟩ := s
  simp only [hown]
  wp_walk
  exact h
end
end Mine
end PartS3
section PartS4
open PySem PySem.W PyProof.Rows PySem.Calls
open PySem.Sem (wp)
set_option maxRecDepth 100000
namespace Mine
theorem lookup_ba_release : typeLookup (.type "bytearray") "__release_buffer__" = pure (some (.builtin "bytearray.__release_buffer__")) := by rw [typeLookup_type, builtinLookup_eq_fast]; kernel_rfl
theorem ba_ends : ("bytearray.__release_buffer__".endsWith ("." ++ "__release_buffer__")) = true := by decide +kernel
theorem ba_drop : ("bytearray.__release_buffer__".dropRight ("__release_buffer__".length + 1)) = "bytearray" := by decide +kernel
theorem lookup_int_index : typeLookup (.type "int") "__index__" = pure (some (.builtin "int.__index__")) := by rw [typeLookup_type, builtinLookup_eq_fast]; kernel_rfl
theorem specialOf_int_index (i : Int) (t : Tok) : specialOf (.int i t) (Str.ofString "__index__") = pure (some (.builtin "int.__index__")) := by
  show typeLookup (.type "int") (Str.ofString "__index__") = _
  exact lookup_int_index
theorem attempt_pure {α : Type} (x : α) : Sem.attempt (pure x : Sem α) = pure (Except.ok x) := rfl
theorem asStr_int (i : Int) (t : Tok) : asStr? (.int i t) = pure none := rfl
theorem asIndex_int (i : Int) (t : Tok) : asIndex (.int i t) = pure i := rfl
section
variable {prog : Program} {w : World} {A : Around} {E : Value → Shared → Prop} {s : Shared} {a : Addr}
theorem ba_release {Q : Bool → Shared → Prop} (hT : s.TypeIs (.ref a) "bytearray") (h : Q false s) : wpAny (model prog w) A (Builtin.Bytes.ownRelease (.ref a)) Q E s := by
  unfold Builtin.Bytes.ownRelease Builtin.Bytes.slotIsOwn
  refine wpAny_bind (wpAny_bind (wpAny_specialOf (name := Str.ofString "__release_buffer__") hT lookup_ba_release ?_))
  simp only [ba_ends, ba_drop]
  refine wpAny_isInstance hT sub_ba_self ?_
  exact wpAny_pure h
theorem ba_bind (v : Value) : Builtin.Bytes.bindOptional "bytearray.__init__" "bytearray" ["source", "encoding", "errors"] [v] [] = pure [some v, none, none] := by rfl
theorem ok_bad {id : String} {args : Args} (h : okCode (.builtin id args) = true) : Builtin.Bytes.decodersThatHold.contains id = false ∧ id ≠ "bytearray.__contains__" ∧ id ≠ "bytearray.__mod__" ∧ id ≠ "bytearray.__rmod__" ∧ id ≠ "_struct.pack_into.held" ∧ id ≠ "bytearray.find.held" := by
  have h1 : badIds.contains id = false := by
    unfold okCode at h
    simpa using h
  unfold badIds at h1
  rw [List.contains_eq_any_beq, List.any_append, Bool.or_eq_false_iff] at h1
  obtain ⟨h2, h3⟩ := h1
  refine ⟨by rw [List.contains_eq_any_beq]; exact h3, ?_⟩
  simp only [List.any_cons, List.any_nil, Bool.or_false, Bool.or_eq_false_iff, beq_eq_false_iff_ne] at h2
  obtain ⟨e1, e2, e3, e4, e5⟩ := h2
  exact ⟨e1, e2, e3, e4, e5⟩
theorem ba_exported {Q : Bool → Shared → Prop} (h : Q false s) : wpS (model prog w) A (Builtin.Bytes.exported (.ref a)) Q E s := by
  unfold Builtin.Bytes.exported
  refine wpS_bind (wpS_stack fun st hst => wpS_pure ?_)
  rw [List.any_eq_false.mpr]
  · exact h
  · rintro ⟨c, p⟩ hx
    have hk := hst _ hx
    cases c with
    | builtin id args =>
      obtain ⟨h1, e1, e2, e3, e4, e5⟩ := ok_bad hk
      split <;> simp_all
    | _ => simp
theorem ba_write {f : Array UInt8 → Array UInt8} {b : Array UInt8} {Q : Unit → Shared → Prop} (ho : s.heap.get? a = some (baObj b)) (hz : (f b).size ≤ 1000)
    (h : ∀ h', Heap.SameBut a s.heap h' → h'.get? a = some (baObj (f b)) → Q () { s with heap := h' }) : wpAny (model prog w) A (Builtin.Bytes.write (.ref a) f) Q E s := by
  show wpAny _ _ (updateBytearray a f) _ _ _
  unfold updateBytearray
  refine wpAny_bind (wpAny_load ho ?_)
  have hg := Heap.get?_update_self (Obj.mapBytearray f) ho rfl
  refine wpAny_bind (wpAny_update ho ?_)
  refine wpAny_lookBehind hg ?_ (h _ (Heap.SameBut.update ..) hg)
  show (if (f b).size > sizeLine then some "bytearray:memory" else none) = none
  rw [if_neg (by rw [PySem.sizeLine_eq]; omega)]
theorem ba_init_S {n : Nat} {t : Tok} {Q : Value → Shared → Prop} (hn : n ≤ 1000) (ho : s.heap.get? a = some (baObj #[]))
    (h : ∀ h', Heap.SameBut a s.heap h' → h'.get? a = some (baObj (Array.replicate n 0)) → Q .none { s with heap := h' }) :
    wpS (model prog w) A (Builtin.«bytearray.__init__» ⟨[.ref a, .int (n : Int) t], []⟩)
      (fun fin s' => match fin with | .done f => wants Q E (.ok f) s' | .again _ => False) (fun e s' => wants Q E (.error e) s') s := by
  have hT : s.TypeIs (.ref a) "bytearray" := ⟨_, ho, rfl⟩
  unfold Builtin.«bytearray.__init__»
  simp only []
  refine wpS_first (ba_release hT ?_)
  simp only [Bool.false_eq_true, if_false]
  rw [ba_bind]
  rw [pure_bind]
  simp only []
  refine wpS_first (wpAny_pure ?_)
  refine wpS_first (wpAny_pure ?_)
  refine wpS_bind ?_
  unfold orM
  refine wpS_bind (ba_exported ?_)
  show wpS _ _ (do let k ← Builtin.Bytes.exportsOf (.ref a); pure (decide (k > 0))) _ _ _
  refine wpS_first (wpAny_bind (wpAny_load ho (wpAny_pure ?_)))
  refine wpS_pure ?_
  simp only [Nat.lt_irrefl, gt_iff_lt, decide_false, Bool.false_eq_true, if_false]
  refine wpS_first (ba_write ho (by simp) fun h₁ hs₁ hg₁ => ?_)
  refine wpS_of ?_
  rw [asStr_int, pure_bind]
  simp only [Option.isSome_none, Bool.false_eq_true, if_false]
  rw [pure_bind]
  rw [specialOf_int_index, pure_bind]
  simp only [Option.isSome_some, if_true]
  rw [asIndex_int, attempt_pure, pure_bind]
  dsimp only
  have e1 : Builtin.Bytes.fitsIndex (n : Int) = true := by
    unfold Builtin.Bytes.fitsIndex
    rw [Bool.and_eq_true]
    exact ⟨decide_eq_true (by omega), decide_eq_true (by omega)⟩
  have e2 : ¬ ((n : Int) < 0) := by omega
  have e3 : ((n : Int) == 2 ^ 63 - 1) = false := beq_eq_false_iff_ne.mpr (by omega)
  have e4 : Builtin.Bytes.tooLong (n : Int).toNat = false := by
    unfold Builtin.Bytes.tooLong
    exact decide_eq_false (by rw [PySem.sizeLine_eq]; omega)
  simp only [e1, e2, e3, e4, Bool.not_true, Bool.false_eq_true, if_false]
  refine wpAny_bind (wpAny_rule ?_)
  by_cases hz : n = 0
  · subst hz
    rw [if_neg (by omega)]
    exact wpAny_pure (h _ hs₁ hg₁)
  · rw [if_pos (by omega)]
    refine wpAny_bind (ba_write hg₁ (by simp; exact hn) fun h₂ hs₂ hg₂ => ?_)
    refine wpAny_pure (h _ (hs₁.trans hs₂) ?_)
    rw [Int.toNat_natCast] at hg₂
    exact hg₂
theorem wpS_neg {α : Type} {c : Prop} [Decidable c] {x y : Sem α} {Q : α → Shared → Prop} (hc : ¬ c) (h : wpS (model prog w) A y Q E s) : wpS (model prog w) A (if c then x else y) Q E s := by rw [if_neg hc]; exact h
theorem wpS_pos {α : Type} {c : Prop} [Decidable c] {x y : Sem α} {Q : α → Shared → Prop} (hc : c) (h : wpS (model prog w) A x Q E s) : wpS (model prog w) A (if c then x else y) Q E s := by rw [if_pos hc]; exact h
theorem codeS_builtin {id : String} {args : Args} {b : Builtin} {R : Result → Shared → Prop} (hk : badIds.contains id = false) (hb : entryFor table id = some b)
    (h : wpS (model prog w) (A.under (.builtin id args)) (b args)
      (fun fin s' => match fin with | .done f => R (.ok f) s' | .again c' => c'.quiet = true ∧ codeS (model prog w) A c' R s') (fun e s' => R (.error e) s') s) :
    codeS (model prog w) A (.builtin id args) R s := by
  refine codeS_of_tree (by show (!badIds.contains id) = true; rw [hk]; rfl) ?_
  show wpS _ _ (match entryFor table id with | some b => b args | none => unsupported ((withoutEnding? id "#data").getD id)) _ _ s
  rw [hb]; exact h
theorem codeS_call_builtin {id : String} {args : Args} {b : Builtin} {R : Result → Shared → Prop} (hk : badIds.contains id = false) (hq : plainId id = true) (hb : entryFor table id = some b)
    (h : wpAny (model prog w) A.in1 (checkBuiltinCall id args) (fun _ s₁ => wpS (model prog w) A.in1 (b args)
      (fun fin s' => match fin with | .done f => R (.ok f) s' | .again c' => c'.quiet = true ∧ codeS (model prog w) A c' R s') (fun e s' => R (.error e) s') s₁)
      (fun e s' => R (.error e) s') s) : codeS (model prog w) A (.call (.builtin id) args) R s := by
  refine codeS_of_tree rfl ?_
  show wpS _ A.in1 (do checkBuiltinCall id args; again (.builtin id args)) _ _ s
  refine wpS_first (wpAny_mono h (fun _ s₁ h₁ => wpS_pure ⟨plainId_quiet hq args, codeS_builtin hk hb ?_⟩) fun _ _ x => x)
  rw [Around.under_plainId hq args]
  exact h₁
theorem wpS_callSpecial {self : Value} {T : String} {name : Str} {id : String} {args : List Value} {kw : List (Str × Value)}
    {Q : Option Value → Shared → Prop} (hT : s.TypeIs self T) (h : Slot T name id)
    (hc : wpS (model prog w) A (call (.builtin id) (self :: args) kw) (fun v => Q (some v)) E s) : wpS (model prog w) A (callSpecial? self name args kw) Q E s := by
  simp only [callSpecial?]
  refine wpS_first (wpAny_specialOf hT h.lookup ?_)
  simp only [h.bind]
  exact wpS_holding (wpS_first (wpAny_pure (wpS_bind (wpS_mono hc (fun v s' h' => wpS_pure h') fun _ _ h' => h'))))
theorem call_ba {n : Nat} {t : Tok} {Q : Value → Shared → Prop} (hn : n ≤ 1000)
    (h : ∀ h', Heap.SameBut s.heap.objs.size (s.heap.push (baObj #[])) h' → h'.get? s.heap.objs.size = some (baObj (Array.replicate n 0)) → Q (.ref s.heap.objs.size) { s with heap := h' }) :
    wpS (model prog w) A (call (.type "bytearray") [.int (n : Int) t]) Q E s := by
  refine wpS_call (codeS_of_tree rfl ?_)
  show wpS _ _ (callAny (.type "bytearray") _) _ _ _
  refine wpS_pure ⟨Code.quiet_builtin _ (by decide +kernel), codeS_builtin (by decide +kernel) F.entry_type_call ?_⟩
  rw [Around.under_plain (weight_type_call_type "bytearray" [.int (n : Int) t] []) rfl]
  unfold Builtin.«type.__call__»
  dsimp only
  refine wpS_neg (by decide +kernel) ?_
  refine wpS_neg (by decide +kernel) ?_
  rw [typeCall_ba, pure_bind, mro_ba, pure_bind]
  refine wpS_neg (by decide +kernel) ?_
  rw [called_ba.made, pure_bind]
  dsimp only
  rw [pure_bind]
  refine wpS_first (wpAny_holding (wpAny_call (codeAny_mono (code_ba_new (Q₁ := fun obj s₁ => obj = .ref s.heap.objs.size ∧ s₁ = { s with heap := s.heap.push (baObj #[]) }) (E := E) _ ⟨rfl, rfl⟩) fun r s₁ hr => ?_)))
  cases r with
  | error e => exact hr
  | ok fl =>
    cases fl with
    | ret v =>
      obtain ⟨rfl, rfl⟩ := hr
      have hg : (s.heap.push (baObj #[])).get? s.heap.objs.size = some (baObj #[]) := Heap.get?_push_size _ rfl
      have hT : ({ s with heap := s.heap.push (baObj #[]) } : Shared).TypeIs (.ref s.heap.objs.size) "bytearray" := ⟨_, hg, rfl⟩
      dsimp only
      refine wpS_first (wpAny_isInstance hT sub_ba_self ?_)
      refine wpS_neg (by decide) ?_
      refine wpS_bind (wpS_holding (wpS_callSpecial hT slot_ba_init (wpS_call (codeS_call_builtin (by decide +kernel) slot_ba_init.plain entry_ba_init (slot_ba_init.check _ _ _ _ _ _ _ _ hT (args_ba_init _ _) ?_)))))
      refine wpS_mono (ba_init_S (E := fun _ _ => False) (Q := fun r s₂ => r = .none ∧ ∃ h', s₂ = { s with heap := h' } ∧ Heap.SameBut s.heap.objs.size (s.heap.push (baObj #[])) h' ∧ h'.get? s.heap.objs.size = some (baObj (Array.replicate n 0))) hn hg fun h' hs' hg' => ⟨rfl, h', rfl, hs', hg'⟩) (fun fin s' hf => ?_) fun e s' he => ?_
      · cases fin with
        | again c' => exact hf.elim
        | done f =>
          cases f with
          | ret v =>
            obtain ⟨rfl, h', rfl, hs', hg'⟩ := hf
            dsimp only
            refine wpS_neg (by decide) ?_
            exact wpS_pure (h h' hs' hg')
          | _ => exact hf.elim
      · exact he.elim
    | _ => exact hr.elim
end
section
variable {prog : Program} {w : World} {A : Around} {E : Value → Shared → Prop} {s : Shared} {h₀ : Heap} {L : Addr} {m : Str → Option Value} {news : List (Addr × Obj)}
theorem call_ba_N {n : Nat} {t : Tok} {Q : Value → Shared → Prop} (F : Fr h₀ L s.heap m) (N : News h₀ L s.heap news) (hn : n ≤ 1000)
    (h : ∀ d h', Fr h₀ L h' m → News h₀ L h' ((d, baObj (Array.replicate n 0)) :: news) → (∀ p ∈ news, p.1 < d) → L < d → Q (.ref d) { s with heap := h' }) :
    wpS (model prog w) A (call (.type "bytearray") [.int (n : Int) t]) Q E s := by
  refine call_ba hn fun h' hs hg => ?_
  have hL : L < s.heap.objs.size := F.ns.lt
  have hne : ∀ b o, s.heap.get? b = some o → h'.get? b = some o := fun b o e => (hs.2 b (Nat.ne_of_lt (Heap.lt_size e))).trans (Heap.get?_push_of_some _ e)
  refine h _ h' ⟨F.ns.at' fun o e => hne _ o e, fun b o e => hne b o (F.keep b o e), F.above⟩ (fun p hp => ?_) (fun p hp => Heap.lt_size (N p hp).1) hL
  rcases List.mem_cons.mp hp with rfl | hp
  · refine ⟨hg, Nat.ne_of_gt hL, ?_⟩
    cases q : h₀.get? s.heap.objs.size with
    | none => rfl
    | some o => exact absurd (Heap.lt_size (F.keep _ _ q)) (Nat.lt_irrefl _)
  · exact ⟨hne _ _ (N p hp).1, (N p hp).2⟩
end
end Mine
end PartS4
section PartS5
open PySem PySem.W PyProof.Rows PySem.Calls
open PySem.Sem (wp)
set_option maxRecDepth 100000
namespace Mine
theorem slot_ba_set : Slot "bytearray" "__setitem__" "bytearray.__setitem__" :=
  .of (owner := "bytearray") (n := "__setitem__") (by rw [typeLookup_type, builtinLookup_eq_fast]; kernel_rfl) (by decide +kernel) (by decide +kernel) (by decide +kernel)
    (by first | exact .inl (by decide +kernel) | exact .inr (by decide +kernel)) (by rw [isSubtype_type]; kernel_rfl)
theorem entry_ba_set : entryFor table "bytearray.__setitem__" = some Builtin.«bytearray.__setitem__» := entryFor_of_fast (by kernel_rfl)
theorem args_ba_set (a b c : Value) : argsOk "bytearray.__setitem__" ⟨[a, b, c], []⟩ := by unfold argsOk; kernel_rfl
theorem subscript_int {i : Int} {t : Tok} (h0 : 0 ≤ i) (h1 : i < 1000) : Builtin.Bytes.subscript? (.int i t) = pure (some i) := by
  unfold Builtin.Bytes.subscript?
  rw [specialOf_int_index, pure_bind]
  simp only [Option.isNone_some, Bool.false_eq_true, if_false]
  rw [asIndex_int, pure_bind]
  have e1 : Builtin.Bytes.fitsIndex i = true := by
    unfold Builtin.Bytes.fitsIndex
    rw [Bool.and_eq_true]
    exact ⟨decide_eq_true (by omega), decide_eq_true (by omega)⟩
  rw [e1]
  rfl
theorem byteValue_int {v : Int} {t : Tok} (h0 : 0 ≤ v) (h1 : v < 256) : Builtin.Bytes.byteValue (.int v t) = pure v.toNat.toUInt8 := by
  unfold Builtin.Bytes.byteValue
  rw [asIndex_int, pure_bind]
  have e : (decide (v < 0) || decide (v ≥ 256)) = false := by
    rw [Bool.or_eq_false_iff]
    exact ⟨decide_eq_false (by omega), decide_eq_false (by omega)⟩
  rw [e]
  rfl
theorem seqIndex_of {i : Int} {n : Nat} (h0 : 0 ≤ i) (h1 : i < n) : seqIndex? i n = some i.toNat := by
  have hj : (if i < 0 then i + (n : Int) else i) = i := if_neg (by omega)
  have e : (decide (0 ≤ i) && decide (i < n)) = true := by
    rw [Bool.and_eq_true]
    exact ⟨decide_eq_true h0, decide_eq_true h1⟩
  show (if (decide (0 ≤ (if i < 0 then i + (n : Int) else i)) && decide ((if i < 0 then i + (n : Int) else i) < n)) = true then some (if i < 0 then i + (n : Int) else i).toNat else none) = _
  rw [hj, if_pos e]
section
variable {prog : Program} {w : World} {A : Around} {E : Value → Shared → Prop} {s : Shared} {d : Addr} {b : Array UInt8}
theorem set_ba {i v : Int} {ti tv : Tok} {Q : Unit → Shared → Prop} (ho : s.heap.get? d = some (baObj b)) (h0 : 0 ≤ i) (hi : i < b.size) (hb : b.size ≤ 1000) (v0 : 0 ≤ v) (v1 : v < 256)
    (h : ∀ h', Heap.SameBut d s.heap h' → h'.get? d = some (baObj (b.setIfInBounds i.toNat v.toNat.toUInt8)) → Q () { s with heap := h' }) :
    wpAny (model prog w) A (setItem (.ref d) (.int i ti) (.int v tv)) Q E s := by
  have hT : s.TypeIs (.ref d) "bytearray" := ⟨_, ho, rfl⟩
  unfold setItem
  refine wpAny_holding ?_
  refine wpAny_bind (wpAny_sequenceKey hT (by decide) ?_)
  refine wpAny_bind (wpAny_callSpecial?_slot (name := Str.ofString "__setitem__") hT slot_ba_set
    (wpAny_call_entry slot_ba_set hT entry_ba_set ?_ (args_ba_set _ _ _)))
  unfold Builtin.«bytearray.__setitem__»
  dsimp only
  rw [if_neg (by decide)]
  rw [subscript_int h0 (by omega), pure_bind]
  dsimp only
  rw [byteValue_int v0 v1, pure_bind]
  refine wpAny_bind (wpAny_bind (wpAny_bind (wpAny_load ho (wpAny_pure (wpAny_pure ?_)))))
  rw [seqIndex_of h0 hi]
  dsimp only
  refine wpAny_bind (ba_write ho (by simp; exact hb) fun h' hs hg => ?_)
  exact wpAny_pure ⟨_, rfl, wpAny_pure (h h' hs hg)⟩
theorem no_ba_bytes : typeLookup (.type "bytearray") "__bytes__" = pure none := by rw [typeLookup_type, builtinLookup_eq_fast]; kernel_rfl
theorem no_ba_index : typeLookup (.type "bytearray") "__index__" = pure none := by rw [typeLookup_type, builtinLookup_eq_fast]; kernel_rfl
theorem ba_buffer : typeLookup (.type "bytearray") "__buffer__" = pure (some (.builtin "bytearray.__buffer__")) := by rw [typeLookup_type, builtinLookup_eq_fast]; kernel_rfl
theorem ba_ends2 : ("bytearray.__buffer__".endsWith ("." ++ "__buffer__")) = true := by decide +kernel
theorem ba_drop2 : ("bytearray.__buffer__".dropRight ("__buffer__".length + 1)) = "bytearray" := by decide +kernel
theorem ba_own_buffer {Q : Bool → Shared → Prop} (hT : s.TypeIs (.ref d) "bytearray") (h : Q true s) : wpAny (model prog w) A (Builtin.Bytes.slotIsOwn (.ref d) "__buffer__") Q E s := by
  unfold Builtin.Bytes.slotIsOwn
  refine wpAny_bind (wpAny_specialOf (name := Str.ofString "__buffer__") hT ba_buffer ?_)
  simp only [ba_ends2, ba_drop2]
  exact wpAny_isInstance hT sub_ba_self h
theorem ba_payload {Q : Array UInt8 → Shared → Prop} (ho : s.heap.get? d = some (baObj b)) (h : Q b s) : wpAny (model prog w) A (Builtin.Bytes.payload (.ref d)) Q E s := by
  unfold Builtin.Bytes.payload Builtin.Bytes.payload?
  exact wpAny_bind (wpAny_bind (wpAny_load ho (wpAny_pure (wpAny_pure h))))
theorem ba_buf {Q : Option (Array UInt8) → Shared → Prop} (ho : s.heap.get? d = some (baObj b)) (h : Q (some b) s) : wpAny (model prog w) A (Builtin.Bytes.buffer? "bytes.__new__" (.ref d) true) Q E s := by
  have hT : s.TypeIs (.ref d) "bytearray" := ⟨_, ho, rfl⟩
  unfold Builtin.Bytes.buffer?
  refine wpAny_bind (wpAny_specialOf (name := Str.ofString "__buffer__") hT ba_buffer ?_)
  refine wpAny_bind (ba_own_buffer hT ?_)
  rw [if_neg (by decide)]
  refine wpAny_bind (wpAny_specialOf (name := Str.ofString "__buffer__") hT ba_buffer ?_)
  refine wpAny_bind (ba_release hT ?_)
  rw [if_neg (by decide)]
  exact wpAny_bind (ba_payload ho (wpAny_pure h))
theorem ba_bytes_new {Q : Value → Shared → Prop} (ho : s.heap.get? d = some (baObj b)) (hb : b.size ≤ 1000)
    (hQ : ∀ t k, Q (.bytes b t) { s with toks := k }) :
    codeAny (model prog w) A (.call (.builtin "bytes.__new__") ⟨[.type "bytes", .ref d], []⟩) (wants Q E) s := by
  have hT : s.TypeIs (.ref d) "bytearray" := ⟨_, ho, rfl⟩
  refine codeAny_of_tree ?_
  show wpAny _ A.in1 (do checkBuiltinCall "bytes.__new__" ⟨[.type "bytes", .ref d], []⟩; again (.builtin "bytes.__new__" ⟨[.type "bytes", .ref d], []⟩)) _ _ s
  refine wpAny_bind (wpAny_of_eq (F.bm_newCall _) (wpAny_pure ⟨plainId_quiet F.bm_plain _, codeAny_builtin F.bm_entry ?_⟩))
  rw [Around.under_plainId F.bm_plain _]
  unfold Builtin.«bytes.__new__»
  refine wpAny_bind (wpAny_of_eq (a := true) rfl ?_)
  refine bm_if_false rfl ?_
  refine wpAny_bind (wpAny_of_eq F.bm_sub ?_)
  refine bm_if_false rfl ?_
  refine wpAny_bind (wpAny_of_eq (F.bm_bind _) ?_)
  refine wpAny_bind (wpAny_of_eq (a := ()) rfl ?_)
  refine wpAny_bind (wpAny_of_eq (a := ()) rfl ?_)
  refine bm_if_false rfl ?_
  refine wpAny_bind (wpAny_specialOf hT no_ba_bytes ?_)
  refine wpAny_bind (wpAny_bind ?_)
  show wpAny _ _ (load d >>= _) _ _ _
  refine wpAny_bind (wpAny_load ho ?_)
  refine wpAny_pure (wpAny_pure ?_)
  refine bm_if_false rfl ?_
  refine wpAny_bind (wpAny_specialOf hT no_ba_index ?_)
  refine bm_if_true rfl ?_
  refine wpAny_bind ?_
  refine ba_buf ho ?_
  dsimp only
  refine wpAny_bind (wpAny_rule ?_)
  refine wpAny_bind (wpAny_mkBytes ?_ (by rw [PySem.sizeLine_eq]; omega))
  show wpAny _ _ (if (Value.type "bytes" == Value.type "bytes") = true then _ else _) _ _ _
  refine bm_if_true (by decide) ?_
  exact wpAny_pure (hQ _ _)
theorem call_bytes_ba {Q : Value → Shared → Prop} (ho : s.heap.get? d = some (baObj b)) (hb : b.size ≤ 1000)
    (hQ : ∀ t k, Q (.bytes b t) { s with toks := k }) : wpAny (model prog w) A (call (.type "bytes") [.ref d]) Q E s := by
  refine callType_codes (Q₁ := fun obj s₁ => s₁.TypeIs obj "bytes" ∧ Q obj s₁) F.bm_called (F.bm_typeCall _) F.entry_object_init
    (ba_bytes_new ho hb fun t k => ⟨PySem.W.typeIs_bytes _ _ _, hQ t k⟩) fun obj s₁ h₁ => ?_
  exact ⟨h₁.1, F.args_object_init_2 obj _, object_init_meets F.bm_called.init.lookup F.bm_called.made (by decide) prog w A.in1 _ s₁ ⟨h₁.1, rfl, h₁.2⟩⟩
theorem set_ba_N {h₀ : Heap} {L : Addr} {m : Str → Option Value} {rest : List (Addr × Obj)} {i v : Int} {ti tv : Tok} {Q : Unit → Shared → Prop} (F : Fr h₀ L s.heap m) (N : News h₀ L s.heap ((d, baObj b) :: rest)) (hr : ∀ p ∈ rest, p.1 ≠ d)
    (h0 : 0 ≤ i) (hi : i < b.size) (hb : b.size ≤ 1000) (v0 : 0 ≤ v) (v1 : v < 256)
    (h : ∀ h', Fr h₀ L h' m → News h₀ L h' ((d, baObj (b.setIfInBounds i.toNat v.toNat.toUInt8)) :: rest) → Q () { s with heap := h' }) :
    wpAny (model prog w) A (setItem (.ref d) (.int i ti) (.int v tv)) Q E s := by
  have z := N (d, baObj b) (.head _)
  refine set_ba z.1 h0 hi hb v0 v1 fun h' hs hg => h h' (F.change hs z.2.1 z.2.2) fun p hp => ?_
  rcases List.mem_cons.mp hp with rfl | hp
  · exact ⟨hg, z.2⟩
  · have y := N p (.tail _ hp)
    exact ⟨(hs.2 p.1 (hr p hp)).trans y.1, y.2⟩
end
end Mine
end PartS5
section PartS6
open PySem PySem.W PyProof.Rows PySem.Calls
open PySem.Sem (wp)
set_option maxRecDepth 100000
namespace Mine
section
variable {M : Model} {A : Around} {E : Value → Shared → Prop} {s : Shared} {env : Env}
theorem wpS_execs_cons {st : Stmt} {rest : List Stmt} {Q : Flow → Shared → Prop}
    (h : wpS M A (exec st env) (fun f s' => match f with | .next => wpS M A (execs rest env) Q E s' | f => Q f s') E s) : wpS M A (execs (st :: rest) env) Q E s := by
  rw [execs_cons]
  refine wpS_bind (wpS_mono h (fun f s' h' => ?_) fun _ _ x => x)
  cases f <;> first | exact h' | exact wpS_pure h'
theorem wpS_execs_any {st : Stmt} {rest : List Stmt} {Q : Flow → Shared → Prop}
    (h : wpAny M A (exec st env) (fun f s' => match f with | .next => wpS M A (execs rest env) Q E s' | f => Q f s') E s) : wpS M A (execs (st :: rest) env) Q E s := wpS_execs_cons (wpS_of h)
theorem wpS_Assign_Name {x : Str} {pos' pos : Pos} {value : Expr} {Q : Flow → Shared → Prop}
    (h : wpS M A (eval value env) (fun v s₁ => wpAny M A (storeName env x v) (fun _ => Q .next) E s₁) E s)
    (hs : swapsWith value (some (.Name x pos')) pos.line env = pure false := by rfl) :
    wpS M A (exec (.Assign [.Name x pos'] value pos) env) Q E s := fun Γ p hΓ hk => by
  simp only [exec_Assign_Name env x pos' value pos hs, Sem.wp_bind', Sem.wp_cmd_standAt, Sem.wp_bindName, Sem.wp_pure']
  exact Sem.wp_mono M Γ _ (fun v _ s₁ h₁ => h₁ Γ _ hΓ) (fun _ _ _ h' => h') _ _ (h Γ _ hΓ hk)
theorem wpS_If {test : Expr} {body orelse : List Stmt} {pos : Pos} {Q : Flow → Shared → Prop}
    (h : wpS M A (isTrue test env (eval test env)) (fun b s₂ => if b then wpS M A (execs body env) Q E s₂ else wpS M A (execs orelse env) Q E s₂) E s) :
    wpS M A (exec (.If test body orelse pos) env) Q E s := fun Γ p hΓ hk => by
  simp only [exec_If, Sem.wp_bind', Sem.wp_cmd_standAt]
  refine Sem.wp_mono M Γ _ (fun b p₂ s₂ h₂ => ?_) (fun _ _ _ h' => h') _ _ (h Γ _ hΓ hk)
  cases b <;> exact h₂ Γ p₂ hΓ hk
theorem wpS_Return {e : Expr} {pos : Pos} {Q : Flow → Shared → Prop} (h : wpS M A (eval e env) (fun v => Q (.ret v)) E s) :
    wpS M A (exec (.Return (some e) pos) env) Q E s := fun Γ p hΓ hk => by
  simp only [exec_Return_some, Sem.wp_bind', Sem.wp_cmd_standAt, Sem.wp_pure']; exact h Γ _ hΓ hk
theorem wpS_isTrue_Compare1 {l r : Expr} {op : CmpOp} {pos : Pos} {whole : Sem Value} {Q : Bool → Shared → Prop}
    (h : wpS M A (eval l env) (fun a s₁ => wpS M A (eval r env) (fun b s₂ => wpS M A (compareOp op a b) (fun c s₃ => wpS M A (truthy c) Q E s₃) E s₂) E s₁) E s)
    (hm : behindInMarks op r = false := by with_unfolding_all rfl) : wpS M A (isTrue (.Compare l [op] [r] pos) env whole) Q E s := fun Γ p hΓ hk => by
  simp only [isTrue_Compare1, markedBehindIn_of_false hm, Sem.wp_bind', Sem.wp_holding, Sem.wp_cmd_standAt, Sem.wp_operate]
  exact Sem.wp_mono M Γ _ (fun a p₁ s₁ h₁ => Sem.wp_mono M Γ _ (fun b _ s₂ h₂ => Sem.wp_mono M Γ _ (fun c p₃ s₃ h₃ => h₃ Γ p₃ hΓ hk)
    (fun _ _ _ h' => h') _ _ (h₂ Γ _ hΓ hk)) (fun _ _ _ h' => h') _ _ (h₁ Γ p₁ hΓ hk)) (fun _ _ _ h' => h') _ _ (h Γ p hΓ hk)
theorem wpS_BinOp {l r : Expr} {op : Operator} {pos : Pos} {Q : Value → Shared → Prop}
    (h : wpS M A (eval l env) (fun a s₁ => wpS M A (eval r env) (fun b s₂ => wpS M A (binaryOp op a b) Q E s₂) E s₁) E s) :
    wpS M A (eval (.BinOp l op r pos) env) Q E s := fun Γ p hΓ hk => by
  simp only [eval_BinOp, Sem.wp_bind', Sem.wp_holding, Sem.wp_cmd_standAt, Sem.wp_operate]
  exact Sem.wp_mono M Γ _ (fun a p₁ s₁ h₁ => Sem.wp_mono M Γ _ (fun b _ s₂ h₂ => h₂ Γ _ hΓ hk) (fun _ _ _ h' => h') _ _ (h₁ Γ p₁ hΓ hk))
    (fun _ _ _ h' => h') _ _ (h Γ p hΓ hk)
theorem wpS_IfExp {test body orelse : Expr} {pos : Pos} {Q : Value → Shared → Prop}
    (h : wpS M A (isTrue test env (eval test env)) (fun b s₁ => if b then wpS M A (eval body env) Q E s₁ else wpS M A (eval orelse env) Q E s₁) E s) :
    wpS M A (eval (.IfExp test body orelse pos) env) Q E s := by
  rw [arm_eval_IfExp]
  refine wpS_bind (wpS_mono h (fun b s₁ h₁ => ?_) fun _ _ x => x)
  cases b <;> exact h₁
theorem wpS_Call {func : Expr} {args : List Expr} {pos : Pos} {Q : Value → Shared → Prop}
    (h : wpAny M A (eval func env) (fun f s₁ => wpS M A (callWith pos f [] (backTo pos (starEach args env)) []) Q E s₁) E s)
    (he : eval (.Call func args [] pos) env = (do callWith pos (← eval func env) [] (backTo pos (starEach args env)) (backToKw pos (keywordEach [] env))) := by rfl) :
    wpS M A (eval (.Call func args [] pos) env) Q E s := by
  rw [he]; exact wpS_first h
theorem wpS_spliced_nil {pos : Pos} {Q : List Value → Shared → Prop} (h : Q [] s) : wpS M A (spliced (backTo pos (starEach [] env))) Q E s := wpS_pure h
theorem wpS_spliced_cons {e : Expr} {rest : List Expr} {pos : Pos} {Q : List Value → Shared → Prop}
    (h : wpS M A (eval e env) (fun v s₁ => wpS M A (spliced (backTo pos (starEach rest env))) (fun vs s₂ => Q (v :: vs) s₂) E s₁) E s)
    (he : starEach (e :: rest) env = (false, eval e env) :: starEach rest env := by rfl) : wpS M A (spliced (backTo pos (starEach (e :: rest) env))) Q E s := by
  rw [he]
  show wpS M A (spliced ((false, eval e env) :: backTo pos (starEach rest env))) Q E s
  rw [spliced]
  refine wpS_bind (wpS_mono h (fun v s₁ h₁ => ?_) fun _ _ x => x)
  simp only [Bool.false_eq_true, if_false]
  exact wpS_bind (wpS_pure (wpS_bind (wpS_holding (wpS_mono h₁ (fun vs s₂ h₂ => wpS_pure h₂) fun _ _ x => x))))
theorem wpS_keep {α : Type} {vs : List Value} {m : Sem α} {Q : α → Shared → Prop} (h : wpS M A m Q E s) : wpS M A (m.keep vs) Q E s :=
  fun Γ p hΓ hk => by rw [Sem.wp_keep]; exact h Γ p hΓ hk
theorem wpS_callWith {f : Value} {P : Heap → Prop} {e : Expr} {rest : List Expr} {pos : Pos} {Q : Value → Shared → Prop}
    (hk : ∀ h, P h → ∃ k, (k = Keeper.frame ∨ k = Keeper.machine ∨ k = Keeper.boundFrame) ∧ Looks M h (keeperOf f) k)
    (h : wpS M A (spliced (backTo pos (starEach (e :: rest) env))) (fun vs s₁ => P s₁.heap ∧ wpS M A (call f vs) Q E s₁) E s)
    (he : starEach (e :: rest) env = (false, eval e env) :: starEach rest env := by rfl) (hplain : (backTo pos (starEach rest env)).any (·.1) = false := by rfl) :
    wpS M A (callWith pos f [] (backTo pos (starEach (e :: rest) env)) []) Q E s := by
  have hpl : ((backTo pos (starEach (e :: rest) env)).any (·.1) || ([] : List (Option Str × Sem Value)).any (·.1.isNone)) = false := by
    rw [he]
    show ((false || (backTo pos (starEach rest env)).any (·.1)) || false) = false
    rw [hplain]
    rfl
  unfold callWith
  refine wpS_bind (wpS_holding ?_)
  have ha : wpS M A (evalArgs f true (backTo pos (starEach (e :: rest) env)) []) (fun (a : Args) s₁ => P s₁.heap ∧ wpS M A (call f ([] ++ a.pos) a.kw) Q E s₁) E s := by
    rw [he] at h ⊢
    show wpS M A (evalArgs f true ((false, eval e env) :: backTo pos (starEach rest env)) []) _ E s
    unfold evalArgs
    show wpS M A (spliced ((false, eval e env) :: backTo pos (starEach rest env)) >>= _) _ E s
    refine wpS_bind (wpS_mono h (fun vs s' h' => ?_) fun _ _ x => x)
    refine wpS_holding ?_
    exact wpS_first (wpAny_pure (wpS_first (wpAny_pure (wpS_pure h'))))
  refine wpS_mono ha (fun a s₁ h₁ => wpS_first (wpAny_standAt ?_)) fun _ _ x => x
  obtain ⟨k, hk', L⟩ := hk _ h₁.1
  simp only [hpl]
  refine wpS_first (L.here ?_)
  have tail : ∀ {t : Sem Value}, wpS M A t Q E s₁ → wpS M A (t >>= fun r => holding [r] point >>= fun _ => pure r) Q E s₁ :=
    fun ht => wpS_bind (wpS_mono ht (fun r s₂ hr => wpS_first (wpAny_holding (wpAny_point (wpS_pure hr)))) fun _ _ x => x)
  have marked (mk : Value) : wpS M A (callMarked mk f ([] ++ a.pos) a.kw) Q E s₁ := by unfold callMarked; exact wpS_keep h₁.2
  rcases hk' with rfl | rfl | rfl <;> dsimp only <;> first | exact tail h₁.2 | (split <;> first | exact tail h₁.2 | exact tail (marked _))
end
end Mine
end PartS6
section PartS7
open PySem PySem.W PyProof.Rows PySem.Calls
open PySem.Sem (wp)
set_option maxRecDepth 100000
namespace Mine
section
variable {prog : Program} {w : World} {A A₀ : Around} {s : Shared} {K : Frag} {L : Addr} {h₀ base : Heap} {m mg mb : Str → Option Value} {news : List (Addr × Obj)} {p : Program} {loose : List Str} {mean : ExcName → Option Value}
theorem codeS_call_def {R : Result → Shared → Prop} {a : Addr} {o : Obj} {fd : FuncData} {body : List Stmt} {args : Args} {binds : List (Str × Value)}
    (hroom : A.depth < recursionLimit) (ho : s.heap.get? a = some o) (hdata : o.data = .func fd) (hlim : s.heap.NoLimit) (hcd : s.heap.CodeRec fd.code fd.qualname)
    (hbody : fd.body = .stmts body) (hbind : BindsTo s fd args binds)
    (hcell : ∀ x ∈ fd.scope.names, x.2 ≠ .cell) (hloc : ∀ x ∈ binds, fd.scope.names.lookup x.1 = some .local)
    (h : ∀ h₀, h₀.Ns s.heap.objs.size (fun x => binds.reverse.lookup x) → (∀ b o, s.heap.get? b = some o → h₀.get? b = some o) →
      wpS (model prog w) (A.deeper (callEnv fd s.heap.objs.size a)) (execs body (callEnv fd s.heap.objs.size a)) (fun f s' => R (.ok (.ret (match f with | .ret v => v | _ => .none))) s')
        (fun e s' => wpAny (model prog w) (A.deeper (callEnv fd s.heap.objs.size a)) (leaving (callEnv fd s.heap.objs.size a) e) (fun _ s'' => R (.error e) s'') (fun e' s'' => R (.error e') s'') s')
        { s with heap := h₀, toks := s.toks + binds.length })
    (hco : fd.scope.isCoroutine = false := by rfl) (hgen : fd.scope.isGenerator = false := by rfl) (hk : fd.scope.kind = .function := by rfl) :
    codeS (model prog w) A (.call (.ref a) args) R s := by
  refine codeS_call_function hroom ho hdata hco hgen hbody hcd (hbind _ _ _ _ ?_)
  refine wpAny_newFunctionEnv hcell hloc (fun h₀ hns₀ hsb₀ => ⟨hlim.fresh _ hsb₀, codeS_func (h h₀ hns₀ fun b o e => ?_)⟩) hk
  exact hsb₀.extBut b o (Nat.ne_of_lt (Heap.lt_size e)) (Heap.get?_push_of_some _ e)
theorem codeS_def {env : Env} {outer : List Env} {R : Result → Shared → Prop} {name qual : Str} {params : Arguments} {body : List Stmt} {scope : Scope} {dV kV doc pm cdv ct oc : Value} {an od : Option Addr} {osl : Array (Option Value)} {f : Addr} {args : Args} {binds : List (Str × Value)}
    (B : Below A₀ base outer h₀) (F : Fr h₀ L s.heap m) (X₀ : K.In h₀) (N : News h₀ L s.heap news) (T : Top p loose mean mg mb h₀) (hA : A.frames = some (env :: outer)) (hf : env.frame = some L) (hke : env.scope.kind = .function)
    (ho : K.lookup f = some ⟨oc, od, .func (fnOf name qual params body scope dV kV doc pm an cdv ct), osl⟩) (hcd : codeIn K cdv qual = true) (hroom : A.depth < recursionLimit)
    (hbind : BindsTo s (fnOf name qual params body scope dV kV doc pm an cdv ct) args binds) (hloc : ∀ y ∈ binds, scope.names.lookup y.1 = some .local)
    (h : ∀ g L' h₁, Fr h₀ L g m → Fr g L' h₁ (fun y => binds.reverse.lookup y) → News g L' h₁ news → (∀ p ∈ news, p.1 < L') → Below A base (env :: outer) g → K.In g → Top p loose mean mg mb g →
      wpS (model prog w) (A.deeper (envOf qual scope L' f cdv)) (execs body (envOf qual scope L' f cdv))
        (fun fl s' => LeaveK h₀ L m g R (match fl with | .ret v => v | _ => .none) s') (fun _ _ => False)
        { s with heap := h₁, toks := s.toks + binds.length })
    (hco : scope.isCoroutine = false) (hgen : scope.isGenerator = false) (hk : scope.kind = .function)
    (hcell : ∀ x ∈ scope.names, x.2 ≠ .cell) : codeS (model prog w) A (.call (.ref f) args) R s := by
  obtain ⟨FG, BG, st, lv⟩ := groundX (R := R) B F N hA hf hke
  refine codeS_call_def (fd := fnX name qual params body scope [] dV kV doc pm an cdv ct) (body := body) (binds := binds) hroom ((X₀.keeps F.keep) _ _ ho) rfl (T.nolimit.keeps F.keep) (codeRec_of (X₀.keeps F.keep) hcd) rfl hbind hcell hloc (fun h₁ hns hk₁ => ?_) hco hgen hk
  exact wpS_mono (h _ s.heap.objs.size h₁ FG ⟨hns, fun b o e => hk₁ b o (of_hideAll _ e), Nat.le_of_eq (hideAll_size _ _)⟩
    (fun p hp => ⟨hk₁ _ _ (N p hp).1, Nat.ne_of_lt (Heap.lt_size (N p hp).1), hideAll_none _ (List.mem_map_of_mem hp)⟩) (fun p hp => Heap.lt_size (N p hp).1) BG (X₀.keeps st) (T.keeps st)) (fun fl s' hl => lv _ _ hl) fun _ _ y => y.elim
end
/-- as CbClaim, over the clean stacks -/
abbrev ClaimS (prog : Program) (w : World) (K : Frag) (p : Program) (loose : List Str) (mean : ExcName → Option Value) (mg mb : Str → Option Value) (f : Addr) (news : List (Addr × Obj)) (vs : List Value) (R : Tok → Value) : Prop :=
  ∀ (dp un : Nat) (gd : Option (List Code)) (cn : Str) (cs : Scope) (a : Addr) (ccd : Value) (cl : List (Str × Addr)) (outer : List Env) (A₀ : Around) (base h₀ : Heap) (L : Addr) (m : Str → Option Value) (s : Shared) (Q E : Value → Shared → Prop),
    Below A₀ base outer h₀ → Fr h₀ L s.heap m → K.In h₀ → News h₀ L s.heap news → Top p loose mean mg mb h₀ → cs.kind = .function →
    dp + 4 < recursionLimit → un + 20 < cLine → CbRet h₀ L m news s Q R →
      wpS (model prog w) (ktrTop dp un gd cn cs L a ccd cl outer) (call (.ref f) vs) Q E s
end Mine
end PartS7
section PartS8
open PySem PySem.W PyProof.Rows PySem.Calls
namespace Mine
section
variable {prog : Program} {w : World} {A : Around} {E : Value → Shared → Prop} {s : Shared} {env : Env} {h₀ : Heap} {x : Str} {body : List Stmt} {Q : Flow → Shared → Prop}
/-- a loop over a range by what holds of the turn's number, the frame's map and the ledger -/
theorem range_inv {r : Addr} {a₀ b₀ c₀ : Int} {t₀ u₀ v₀ : Tok} {n : Nat} {m₀ : Str → Option Value} {news : List (Addr × Obj)} (J : Nat → (Str → Option Value) → List (Addr × Obj) → Prop)
    (hh : A.handled = none) (hr : IsRange s.heap r a₀ b₀ c₀ t₀ u₀ v₀) (hsmall : Builtin.Range.small a₀ b₀ c₀ = true) (hn : Builtin.Range.rangeSize a₀ b₀ c₀ = (n : Int)) (F : Fr h₀ env.locals s.heap m₀) (N : News h₀ env.locals s.heap news) (hj : J 0 m₀ news)
    (turn : ∀ (i : Nat) t m₁ news₁ h tk own, i < n → news₁.map (·.1) = news.map (·.1) → OwnOff own (news.map (·.1)) → J i m₁ news₁ →
      Fr h₀ env.locals h (fun y => if y = x then some (.int (a₀ + (i : Int) * c₀) t) else m₁ y) → News h₀ env.locals h (news₁ ++ own) →
      wpAny (model prog w) A (execs body env) (InvPostN h₀ env.locals (J (i + 1)) own (news.map (·.1)) { s with heap := h, toks := tk } Q) E { s with heap := h, toks := tk })
    (done : ∀ m₁ news₁ h tk, J n m₁ news₁ → Fr h₀ env.locals h m₁ → News h₀ env.locals h news₁ → Q .next { s with heap := h, toks := tk }) :
    wpAny (model prog w) A (pyIter (.ref r)) (fun it s₂ => LoopAtV prog w A h₀ env x body Q E it s₂) E s := by
  refine wpAny_pyIter_range hr hsmall ?_
  have W := Walks.range (prog := prog) (w := w) hh s.heap.objs.size a₀ c₀ n
  refine loop_invN J W ?_ ?_ ?_ ?_ (by show IsRangeIter _ _ _ _ _; rw [hn]; simpa using Heap.get?_push_size _ rfl) (F.push _) (fun p hp => ⟨Heap.get?_push_of_some _ (N p hp).1, (N p hp).2⟩) hj ?_ ?_
  · intro hm
    exact absurd F.ns.lt ((List.mem_singleton.mp hm) ▸ Nat.lt_irrefl _)
  · intro b hb
    rw [List.mem_singleton.mp hb]
    exact next_is_new F
  · intro p hp hI
    exact absurd (Heap.lt_size (N p hp).1) ((List.mem_singleton.mp hI) ▸ Nat.lt_irrefl _)
  · intro p hp hI
    exact absurd (Heap.lt_size (N p hp).1) ((List.mem_singleton.mp hI) ▸ Nat.lt_irrefl _)
  · rintro i v m₁ nx h tk own hi ⟨t, rfl⟩ he hoff hJ F₁ N₁
    exact turn i t m₁ nx h tk own hi he hoff hJ F₁ N₁
  · exact fun m₁ nx h tk hJ F₁ N₁ => done m₁ nx h tk hJ F₁ N₁
theorem inv_end {L : Addr} {J : (Str → Option Value) → List (Addr × Obj) → Prop} {m' : Str → Option Value} {own news' : List (Addr × Obj)} {adr : List Addr} {s₁ : Shared} {h' : Heap} {tk : Nat} (nx : List (Addr × Obj)) (F : Fr h₀ L h' m') (N : News h₀ L h' news')
    (ha : nx.map (·.1) = adr) (hn : ∀ p ∈ nx, p ∈ news') (ho : ∀ p ∈ own, p ∈ news') (hj : J m' nx) : InvEndN h₀ L J own adr s₁ { s₁ with heap := h', toks := tk } := InvEndN.intro F N hj ha hn ho
theorem kst_step {σ : Type} {r : Addr} {a₀ b₀ c₀ : Int} {t₀ u₀ v₀ : Tok} {n : Nat} {m₀ : Str → Option Value} (Led : σ → List (Addr × Obj)) (ps : σ → List (Str × Value)) (Facts : σ → Prop) (stored : List Str) (P : Nat → σ → Prop) (z₀ : σ)
    (hh : A.handled = none) (hr : IsRange s.heap r a₀ b₀ c₀ t₀ u₀ v₀) (hsmall : Builtin.Range.small a₀ b₀ c₀ = true) (hn : Builtin.Range.rangeSize a₀ b₀ c₀ = (n : Int)) (F : Fr h₀ env.locals s.heap m₀) (N : News h₀ env.locals s.heap (Led z₀))
    (hf : Facts z₀) (hk : ∀ p ∈ ps z₀, m₀ p.1 = some p.2) (hp : P 0 z₀)
    (turn : ∀ (c : σ) (i : Nat) t (u : Str → Option Value) h tk own, i < n → OwnOff own ((Led z₀).map (·.1)) → Facts c → P i c →
      Fr h₀ env.locals h (fun y => if y = x then some (.int (a₀ + (i : Int) * c₀) t) else kstB (fun z => if stored.contains z then u z else m₀ z) (ps c) y) → News h₀ env.locals h (Led c ++ own) →
      wpAny (model prog w) A (execs body env) (InvPostN h₀ env.locals (KstS Led ps Facts x stored m₀ (fun pre c => P pre.length c) (List.replicate (i + 1) 0)) own ((Led z₀).map (·.1)) { s with heap := h, toks := tk } Q) E { s with heap := h, toks := tk })
    (done : ∀ (c : σ) (u : Str → Option Value) h tk, Facts c → P n c → Fr h₀ env.locals h (fun y => if y = x then u y else kstB (fun z => if stored.contains z then u z else m₀ z) (ps c) y) → News h₀ env.locals h (Led c) → Q .next { s with heap := h, toks := tk }) :
    wpAny (model prog w) A (pyIter (.ref r)) (fun it s₂ => LoopAtV prog w A h₀ env x body Q E it s₂) E s := by
  refine range_inv (fun i m nx => KstS Led ps Facts x stored m₀ (fun pre c => P pre.length c) (List.replicate i 0) m nx) hh hr hsmall hn F N ⟨z₀, rfl, hf, hk, fun _ _ _ _ => rfl, hp⟩ ?_ ?_
  · rintro i t m₁ nx h tk own hi _ hoff ⟨c, rfl, hf', h1, h2, hp'⟩ F₁ N₁
    rw [List.length_replicate] at hp'
    exact turn c i t m₁ h tk own hi hoff hf' hp' (kst_fr h1 h2 F₁) N₁
  · rintro m₁ nx h tk ⟨c, rfl, hf', h1, h2, hp'⟩ F₁ N₁
    rw [List.length_replicate] at hp'
    exact done c m₁ h tk hf' hp' (kst_frOut h1 h2 F₁) N₁
end
section
variable {prog : Program} {w : World} {A : Around} {E : Value → Shared → Prop} {s : Shared}
theorem sub_bytes {value slice : PySem.Expr} {b : Array UInt8} {tb u : Tok} {i : Int} {Q : Value → Shared → Prop} (h0 : 0 ≤ i) (h1 : i < b.size) (hz : b.size ≤ 1000)
    (h : Q (.int (b.getD i.toNat 0).toNat s.toks) { s with toks := s.toks + 1 })
    (hs : subscripted slice false (.bytes b tb) (.int i u) = operate [.bytes b tb, .int i u] (getItem (.bytes b tb) (.int i u)) := by with_unfolding_all rfl) :
    wpAny (model prog w) A (subscriptTail value slice (.bytes b tb) (.int i u)) Q E s := by
  refine tail_any (typeIs_bytes s b tb) FB.slot_bytes_getitem.lookup ?_ hs
  have key := getItem_bytes (prog := prog) (w := w) (A := A) (E := E) (s := s) (t := tb) (u := u) (l := b.toList) (i := i) (Q := Q) (by simp; omega) h0 (by simpa using h1) (by
    have e : b.toList.getD i.toNat 0 = b.getD i.toNat 0 := by simp [List.getD, Array.getD_eq_getD_getElem?]
    rw [e]; exact h)
  rw [Array.toArray_toList] at key
  exact key
end
/-- the bytes that stand after k turns of the inner loop -/
def part (b : Array UInt8) (k : Nat) : Array UInt8 := ((List.range b.size).map fun i => if b.size - 1 - i < k then b.getD (b.size - 1 - i) 0 else 0).toArray
theorem part_size (b : Array UInt8) (k : Nat) : (part b k).size = b.size := by simp [part]
theorem part_zero (b : Array UInt8) : part b 0 = Array.replicate b.size 0 := by
  apply Array.ext
  · simp [part]
  · intro i h1 h2
    simp [part]
theorem part_all (b : Array UInt8) : part b b.size = b.reverse := by
  apply Array.ext
  · simp [part]
  · intro i h1 h2
    have hi : i < b.size := by simpa [part] using h1
    have : b.size - 1 - i < b.size := by omega
    simp [part, this]
theorem part_succ (b : Array UInt8) (k : Nat) (hk : k < b.size) : (part b k).setIfInBounds (b.size - 1 - k) (b.getD k 0) = part b (k + 1) := by
  apply Array.ext
  · simp [part]
  · intro i h1 h2
    have hi : i < b.size := by simpa [part] using h1
    rw [Array.getElem_setIfInBounds (by simpa [part] using hi)]
    by_cases h : b.size - 1 - k = i
    · have e : b.size - 1 - i = k := by omega
      simp [part, h, e]
    · have e : b.size - 1 - i ≠ k := by omega
      rw [if_neg h]
      simp only [part, List.getElem_toArray, List.getElem_map, List.getElem_range]
      by_cases q : b.size - 1 - i < k
      · rw [if_pos q, if_pos (by omega)]
      · rw [if_neg q, if_neg (by omega)]
end Mine
end PartS8
section PartC1
open PySem PySem.W PyProof.Rows
namespace Mine
def numF (ks : List Int) : Int := ks.foldl (fun f k => 10 * f + k) 0
def num (b : Array UInt8) : Int := numF (KBw.bInts b)
theorem numF_app (ks : List Int) (k : Int) : numF (ks ++ [k]) = 10 * numF ks + k := by simp [numF, List.foldl_append]
set_option maxRecDepth 100000 in
set_option maxHeartbeats 8000000 in
theorem c_number {prog : Program} {w : World} {p : Program} {loose : List PySem.Str} {mean : ExcName → Option Value} {mg mb : PySem.Str → Option Value}
   (b : Array UInt8) (tb : Tok) (news : List (Addr × Obj)) (hsz : b.size ≤ 30) :
   CbClaim prog w (Mine.hd.heap_39 w.params) p loose mean mg mb 84 news [] True [.bytes b tb] (fun t => .int (num b) t) := by
  dsimp only [CbClaim, CbLists, CbRet]
  intros
  rename_i hret
  refine wpAny_call ?_
  k_dflt cell_enter
  k_steps
  rename_i lF' N'
  with_unfolding_all refine' KStb.kst_bytes (σ := Int × Tok) (fun _ => news) (fun c => [(Str.ofString "found", .int c.1 c.2)]) (fun _ => True) [Str.ofString "found"] (fun pre c => c.1 = numF pre ∧ 0 ≤ c.1 ∧ c.1 < 256 ^ pre.length * 10) (0, _) rfl rfl rfl lF' N' trivial ?hk ?hp ?turn ?done
  case hk =>
    intro q hq
    simp at hq
    subst hq
    with_unfolding_all rfl
  case hp => exact ⟨rfl, Int.le_refl _, by show (0:Int) < _; decide⟩
  case turn =>
    intro c pre post n t u h tk own hks hlt hn0 hn1 hoff _ hP F N
    clear lF' N'
    dsimp only [kstB] at F
    k_fold
    k_steps
    rename_i F' N'
    refine kst_end (10 * c.1 + n, _) F' N' (by kst_in) (by intro p hp; kst_mem) rfl trivial (by kst_all) (by kst_same) ?_
    obtain ⟨h1, h2, h3⟩ := hP
    refine ⟨?_, ?_, ?_⟩
    · rw [numF_app, ← h1]
    · show 0 ≤ 10 * c.1 + n
      omega
    · show 10 * c.1 + n < 256 ^ (pre ++ [n]).length * 10
      rw [List.length_append, List.length_singleton, Int.pow_succ]
      omega
  case done =>
    intro c u h tk _ _ hP F N
    clear lF' N'
    dsimp only [kstB] at F
    (try dsimp only)
    (try k_fold)
    k_steps
    rename_i kF kN Tc' kX
    exact cb_retI hret hP.1 kF kN
end Mine
end PartC1
section PartD0
open PySem PySem.W PyProof.Rows
namespace Mine
theorem allLt_le {d d' : Nat} : ∀ {l : List (Addr × Obj)}, AllLt d l → d ≤ d' → AllLt d' l
  | [], _, _ => trivial
  | _ :: _, h, e => ⟨Nat.lt_of_lt_of_le h.1 e, allLt_le h.2 e⟩
theorem news_sub {h₀ h : Heap} {L : Addr} {l l' : List (Addr × Obj)} (N : News h₀ L h l) (hs : ∀ x ∈ l', x ∈ l) : News h₀ L h l' := fun x hx => N x (hs x hx)
theorem news_cons {h₀ h : Heap} {L : Addr} {l l' : List (Addr × Obj)} {a : Addr × Obj} (N : News h₀ L h l) (N' : News h₀ L h l') (hm : a ∈ l) : News h₀ L h (a :: l') := fun x hx => by
  rcases List.mem_cons.mp hx with rfl | hx
  · exact N _ hm
  · exact N' x hx
theorem off_app {a b : List (Addr × Obj)} {ds : List Addr} (h1 : OwnOff a ds) (h2 : OwnOff b ds) : OwnOff (a ++ b) ds := fun p hp => (List.mem_append.mp hp).elim (h1 p) (h2 p)
theorem off_cons {a : Addr × Obj} {b : List (Addr × Obj)} {ds : List Addr} (h1 : ∀ d ∈ ds, a.1 ≠ d) (h2 : OwnOff b ds) : OwnOff (a :: b) ds := fun p hp => by
  rcases List.mem_cons.mp hp with rfl | hp
  · exact h1
  · exact h2 p hp
theorem off_nil {ds : List Addr} : OwnOff [] ds := fun _ hp => nomatch hp
theorem off_less {a : List (Addr × Obj)} {ds es : List Addr} (h1 : OwnOff a ds) (h2 : ∀ e ∈ es, e ∈ ds) : OwnOff a es := fun p hp e he => h1 p hp e (h2 e he)
def qI : PySem.Str := Str.ofString "_int2digits.<locals>.inner"
def qD : PySem.Str := Str.ofString "_digits2int.<locals>.inner"
/-- A code object among the entries of a ledger: the one that a def within a def has made. -/
def CodeOf (q : PySem.Str) (oc : Obj) : Prop := ∃ vs t, oc.data = .fields vs ∧ vs[1]? = some (.str q t)
def TabI (T : List (Addr × Obj)) : Prop := T = [(37, tabObj #[])] ∨ ∃ c oc, T = [(37, tabObj #[rawInt 39, rawInt 4, .ref c]), (c, oc)] ∧ CodeOf qI oc ∧ c ≠ 44
def TabD (T : List (Addr × Obj)) : Prop := T = [(44, tabObj #[])] ∨ ∃ c oc, T = [(44, tabObj #[rawInt 54, rawInt 4, .ref c]), (c, oc)] ∧ CodeOf qD oc ∧ c ≠ 37
def TabIF (T : List (Addr × Obj)) : Prop := ∃ c oc, T = [(37, tabObj #[rawInt 39, rawInt 4, .ref c]), (c, oc)] ∧ CodeOf qI oc ∧ c ≠ 44
def TabDF (T : List (Addr × Obj)) : Prop := ∃ c oc, T = [(44, tabObj #[rawInt 54, rawInt 4, .ref c]), (c, oc)] ∧ CodeOf qD oc ∧ c ≠ 37
theorem TabIF.tab {T : List (Addr × Obj)} (h : TabIF T) : TabI T := .inr h
theorem TabDF.tab {T : List (Addr × Obj)} (h : TabDF T) : TabD T := .inr h
theorem not_IF : ¬ TabIF [(37, tabObj #[])] := fun ⟨_, _, e, _⟩ => by cases e
theorem not_DF : ¬ TabDF [(44, tabObj #[])] := fun ⟨_, _, e, _⟩ => by cases e
theorem shr_small {a : Int} {k : Nat} (h1 : 0 ≤ a) (h2 : a < 256) : (Int.fdiv a (2 ^ k)).natAbs < 2 ^ 64 := by
  have hp : (0 : Int) < 2 ^ k := Int.pow_pos (by decide)
  rw [Int.fdiv_eq_ediv_of_nonneg _ (Int.le_of_lt hp)]
  have e1 := Int.ediv_nonneg h1 (Int.le_of_lt hp)
  have e2 : a / 2 ^ k ≤ a := Int.ediv_le_self _ h1
  omega
def hiOf (a n : Int) : Int := Int.fdiv a (2 ^ n.toNat)
def loOf (a n : Int) : Int := Builtin.bitXor a (hiOf a n * 2 ^ n.toNat)
def Stop (P : Prop) : Prop := P
theorem Stop.go {P : Prop} (h : Stop P) : P := h
end Mine
end PartD0
section PartC2
open PySem PySem.W PyProof.Rows
namespace Mine
theorem range_one {n : Nat} (h : 0 < n) : Builtin.Range.rangeSize 0 (n : Int) (n : Int) = ((1 : Nat) : Int) := by
  unfold Builtin.Range.rangeSize
  rw [if_pos (by omega), if_pos (by omega)]
  have : ((n : Int) - 0 - 1) / (n : Int) = 0 := Int.ediv_eq_zero_of_lt (by omega) (by omega)
  rw [this]; rfl
theorem range_small {n : Nat} (h : 0 < n) (h2 : n ≤ 30) : Builtin.Range.small 0 (n : Int) (n : Int) = true := by
  unfold Builtin.Range.small
  rw [range_one h]
  simp only [Builtin.Range.rangeFitsLong, Bool.and_eq_true, Bool.or_eq_true, decide_eq_true_eq, beq_iff_eq]
  have e : (if (n : Int) > 0 then decide (-2 ^ 63 ≤ (n : Int) + ((n : Int) - 1)) && decide ((n : Int) + ((n : Int) - 1) < 2 ^ 63) else decide (-2 ^ 63 ≤ (n : Int) + ((n : Int) + 1)) && decide ((n : Int) + ((n : Int) + 1) < 2 ^ 63)) = true := by
    rw [if_pos (by omega), Bool.and_eq_true]
    exact ⟨decide_eq_true (by omega), decide_eq_true (by omega)⟩
  refine ⟨?_, .inr e⟩
  omega
theorem keep_type (T : String) {M : Model} (h : Heap) (_ : True) : ∃ k, (k = Keeper.frame ∨ k = Keeper.machine ∨ k = Keeper.boundFrame) ∧ Looks M h (keeperOf (.type T)) k := ⟨.machine, .inr (.inl rfl), Looks.of_pure rfl⟩
local macro_rules | `(tactic| walk_at "pyIter ref") => `(tactic| (with_reducible (refine Stop.go ?_)))
set_option maxRecDepth 100000 in
set_option maxHeartbeats 8000000 in
theorem c_swap {prog : Program} {w : World} {p : Program} {loose : List PySem.Str} {mean : ExcName → Option Value} {mg mb : PySem.Str → Option Value}
   (b : Array UInt8) (tb tn : Tok) (news : List (Addr × Obj)) (hsz : b.size ≤ 30) (hpos : 0 < b.size) :
   ClaimS prog w (Mine.hd.heap_39 w.params) p loose mean mg mb 21 news [.bytes b tb, .int (b.size : Int) tn] (fun t => .bytes b.reverse t) := by
  dsimp only [ClaimS, CbRet]
  intros
  rename_i hret
  refine wpS_call ?_
  k_dflt (refine' codeS_def ?k1 ?k2 ?k3 ?k4 ?k5 ?kA ?kF ?kK ?k6 ?k7 ?k8 ?k9 ?kB ?_ ?c2 ?c3 ?c4 ?c5; (case kA => exact rfl); (case kF => exact rfl); (case kK => assumption); (case k1 => k_asm); (case k2 => k_asm); (case k3 => k_asm); (case k4 => k_asm); (case k5 => k_asm); (case k6 => k_is); (case k7 => k_is); (case k8 => ktr_room); (case k9 => exact BindsTo.of_eq rfl); (case c5 => decide); (case kB => exact locs rfl); (case c2 => exact rfl); (case c3 => exact rfl); (case c4 => exact rfl))
  intro g' L' h' FG' F' N' hlt B' X' T'
  dsimp only
  replace F' : Fr g' L' h' (fun y => List.lookup y [(Str.ofString "width", .int (b.size : Int) tn), (Str.ofString "data", .bytes b tb)]) := F'
  refine wpS_execs_cons (wpS_Assign_Name (wpS_Call ?_))
  k_steps
  refine wpS_callWith (keep_type "bytearray") (wpS_of ?_)
  k_steps
  · trivial
  refine call_ba_N (by assumption) (by assumption) (by omega) ?_
  intro d h2 F2 N2 hd hLd
  k_fold
  k_steps
  refine wpS_of ?_
  k_steps
  unfold Stop
  rename IsRange _ _ _ _ _ _ _ _ => rg
  rename Fr _ _ _ _ => lF
  rename News _ _ _ _ => lN
  with_unfolding_all refine' kst_step (n := 1) (σ := Array UInt8) (fun c => (d, baObj c) :: news) (fun _ => []) (fun _ => True) [Str.ofString "j"] (fun i c => c = part b (i * b.size)) (part b 0) rfl rg ?sm ?rn lF ?nw trivial ?hk ?hp ?turn ?done
  case sm => exact range_small hpos hsz
  case rn => exact range_one hpos
  case nw => rw [part_zero]; exact lN
  case hk => exact fun _ h => nomatch h
  case hp => simp
  case turn =>
    intro c i t u h tk own hi hoff _ hP F N
    clear lF lN
    dsimp only [kstB] at F
    k_fold
    k_steps
    unfold Stop
    rename IsRange _ _ _ _ _ _ _ _ => rg
    rename Fr _ _ _ _ => lF
    rename News _ _ _ _ => lN
    obtain rfl : i = 0 := by omega
    subst hP
    with_unfolding_all refine' kst_step (n := b.size) (σ := Array UInt8) (fun c => (d, baObj c) :: (news ++ own)) (fun _ => []) (fun _ => True) [] (fun i c => c = part b i) (part b 0) rfl rg ?sm2 ?rn2 lF ?nw2 trivial ?hk2 ?hp2 ?turn2 ?done2
    case sm2 => exact small_one (by omega) (by omega) (by omega) (by omega)
    case rn2 => exact rangeSize_nat _ _
    case nw2 => rw [Nat.zero_mul] at lN; exact lN
    case hk2 => exact fun _ h => nomatch h
    case hp2 => rfl
    case turn2 =>
      intro c2 j t2 u2 h2 tk2 own2 hj hoff2 _ hP2 F2 N2
      clear lF lN
      dsimp only [kstB] at F2
      simp only [Int.natCast_zero, Int.zero_mul, Int.zero_add, Int.mul_one] at F2
      k_fold
      k_steps
      refine sub_bytes (by omega) (by omega) (by omega) ?_
      try k_fold
      k_steps
      refine set_ba_N F2 N2 ?hr (by omega) (by rw [hP2, part_size]; omega) (by rw [hP2, part_size]; omega) (by omega) ?hv ?_
      case hr =>
        intro p hp
        rcases List.mem_append.mp hp with hp | hp
        · rcases List.mem_append.mp hp with hp | hp
          · exact Nat.ne_of_lt (hd p hp)
          · exact hoff p hp d (.head _)
        · exact hoff2 p hp d (.head _)
      case hv =>
        have := UInt8.toNat_lt (b.getD (0 + (j : Int)).toNat 0)
        omega
      intro h3 F3 N3
      try k_fold
      k_steps
      refine kst_end (part b (j + 1)) F3 (news' := (d, baObj (part b (j + 1))) :: (news ++ own ++ own2)) ?_ ?_ ?_ rfl trivial (fun _ h => nomatch h) (by kst_same) (by simp)
      · have e : c2.setIfInBounds (0 + (b.size : Int) - 1 - (j : Int)).toNat (((b.getD (0 + (j : Int)).toNat 0).toNat : Int).toNat.toUInt8) = part b (j + 1) := by
          rw [← part_succ b j hj, hP2]
          have e1 : (0 + (b.size : Int) - 1 - (j : Int)).toNat = b.size - 1 - j := by omega
          have e2 : (0 + (j : Int)).toNat = j := by omega
          rw [e1, e2]
          simp
        rw [← e]
        exact N3
      · intro p hp
        rcases List.mem_cons.mp hp with rfl | hp
        · exact .head _
        · exact .tail _ (List.mem_append_left _ hp)
      · intro p hp
        exact .tail _ (List.mem_append_right _ hp)
    case done2 =>
      intro c2 u2 h2 tk2 _ hP2 F2 N2
      clear lF lN
      dsimp only [kstB] at F2
      dsimp only
      try k_fold
      k_steps
  case done =>
    intro c u h tk _ hP F N
    clear lF lN
    dsimp only [kstB] at F
    dsimp only
    try k_fold
    k_steps
    have z := N (d, baObj c) (.head _)
    refine call_bytes_ba z.1 (by rw [hP, part_size]; omega) fun t2 k2 => ?_
    k_steps
    rename Fr _ _ _ _ => kF
    rename News _ _ _ _ => kN
    subst hP
    rw [Nat.one_mul, part_all]
    exact hret _ _ _ kF fun p hp => kN p (.tail _ hp)
end Mine
end PartC2
section PartC3
open PySem PySem.W PyProof.Rows
namespace Mine
def turnL (ks : List Int) (k : Nat) : List Int := ks.drop k ++ ks.take k
/-- as ClaimS, for a def that hands back bytes whose ints are told -/
abbrev ClaimB (D U : Nat) (prog : Program) (w : World) (K : Frag) (p : Program) (loose : List PySem.Str) (mean : ExcName → Option Value) (mg mb : PySem.Str → Option Value) (f : Addr) (news : List (Addr × Obj)) (vs : List Value) (R : List Int) : Prop :=
  ∀ (dp un : Nat) (gd : Option (List Code)) (cn : PySem.Str) (cs : Scope) (a : Addr) (ccd : Value) (cl : List (PySem.Str × Addr)) (outer : List Env) (A₀ : Around) (base h₀ : Heap) (L : Addr) (m : PySem.Str → Option Value) (s : Shared) (Q E : Value → Shared → Prop),
    Below A₀ base outer h₀ → Fr h₀ L s.heap m → K.In h₀ → News h₀ L s.heap news → Top p loose mean mg mb h₀ → cs.kind = .function →
    dp + D < recursionLimit → un + U < cLine → (∀ (c : Array UInt8) (t : Tok) (h' : Heap) (tk' : Nat), KBw.bInts c = R → Fr h₀ L h' m → News h₀ L h' news → Q (.bytes c t) { s with heap := h', toks := tk' }) →
      wpS (model prog w) (ktrTop dp un gd cn cs L a ccd cl outer) (call (.ref f) vs) Q E s
def BackB (h₀ : Heap) (L : Addr) (m : PySem.Str → Option Value) (news : List (Addr × Obj)) (R : List Int) (s : Shared) (v : Value) (s' : Shared) : Prop :=
  ∃ c t h' tk', v = .bytes c t ∧ s' = { s with heap := h', toks := tk' } ∧ KBw.bInts c = R ∧ Fr h₀ L h' m ∧ News h₀ L h' news
theorem wpS_join {M : Model} {A : Around} {E : Value → Shared → Prop} {s : Shared} {t : Sem Value} {Q : Value → Shared → Prop} {h₀ : Heap} {L : Addr} {m : PySem.Str → Option Value} {news : List (Addr × Obj)} (_F : Fr h₀ L s.heap m) (_N : News h₀ L s.heap news) (R : List Int)
    (hp : wpS M A t (BackB h₀ L m news R s) E s) (hq : ∀ c t h' tk', KBw.bInts c = R → Fr h₀ L h' m → News h₀ L h' news → Q (.bytes c t) { s with heap := h', toks := tk' }) : wpS M A t Q E s := by
  refine wpS_mono hp (fun v s' h => ?_) fun _ _ x => x
  obtain ⟨c, t, h', tk', rfl, rfl, e, F, N⟩ := h
  exact hq c t h' tk' e F N
theorem bInts_rev {b : Array UInt8} {ks : List Int} (h : KBw.bInts b = ks) : KBw.bInts b.reverse = ks.reverse := by
  subst h; simp [KBw.bInts]
theorem c_swapB {prog : Program} {w : World} {p : Program} {loose : List PySem.Str} {mean : ExcName → Option Value} {mg mb : PySem.Str → Option Value}
   (b : Array UInt8) (ks : List Int) (tb tn : Tok) (n : Nat) (news : List (Addr × Obj)) (hks : KBw.bInts b = ks) (hn : ks.length = n) (hsz : n ≤ 30) (hpos : 0 < n) :
   ClaimB 4 20 prog w (Mine.hd.heap_39 w.params) p loose mean mg mb 21 news [.bytes b tb, .int (n : Int) tn] ks.reverse := by
  dsimp only [ClaimB]
  intro dp un gd cn cs a ccd cl outer A₀ base h₀ L m s Q E B F X N T hk hd hu ret
  have e : b.size = n := by rw [← hn, ← hks, KBw.ints_length]
  subst e
  exact c_swap b tb tn news hsz hpos dp un gd cn cs a ccd cl outer A₀ base h₀ L m s Q E B F X N T hk (by omega) (by omega) fun t h' tk' F' N' => ret _ t h' tk' (bInts_rev hks) F' N'
theorem len_pos {f : Array UInt8} {fs : List Int} {n : Nat} (hne : (f.toList != (#[] : Array UInt8).toList) = true) (hf : KBw.bInts f = fs) (hn : fs.length = n) : 0 < n := by
  have e : f.size = n := by rw [← KBw.ints_length, hf, hn]
  rcases Nat.eq_zero_or_pos f.size with h | h
  · rw [Array.eq_empty_of_size_eq_zero h] at hne
    exact absurd hne (by decide)
  · omega
theorem none_rev {f : Array UInt8} {fs : List Int} (hne : (f.toList != (#[] : Array UInt8).toList) = false) (hf : KBw.bInts f = fs) : KBw.bInts (#[] : Array UInt8) = fs.reverse := by
  have h1 : f.toList = [] := by simpa using hne
  have h2 : f = #[] := Array.ext' h1
  subst h2
  rw [← hf]
  rfl
set_option maxRecDepth 100000 in
set_option maxHeartbeats 8000000 in
theorem c_turned {prog : Program} {w : World} {p : Program} {loose : List PySem.Str} {mean : ExcName → Option Value} {mg mb : PySem.Str → Option Value}
   (b : Array UInt8) (ks : List Int) (tb tn : Tok) (k : Nat) (news : List (Addr × Obj)) (hks : KBw.bInts b = ks) (hsz : ks.length ≤ 30) (hk : k < ks.length) :
   ClaimB 8 40 prog w (Mine.hd.heap_39 w.params) p loose mean mg mb 77 news [.bytes b tb, .int (k : Int) tn] (turnL ks k) := by
  dsimp only [ClaimB]
  intros
  rename_i hret
  refine wpS_call ?_
  k_dflt (refine' codeS_def ?k1 ?k2 ?k3 ?k4 ?k5 ?kA ?kF ?kK ?k6 ?k7 ?k8 ?k9 ?kB ?_ ?c2 ?c3 ?c4 ?c5; (case kA => exact rfl); (case kF => exact rfl); (case kK => assumption); (case k1 => k_asm); (case k2 => k_asm); (case k3 => k_asm); (case k4 => k_asm); (case k5 => k_asm); (case k6 => k_is); (case k7 => k_is); (case k8 => ktr_room); (case k9 => exact BindsTo.of_eq rfl); (case c5 => decide); (case kB => exact locs rfl); (case c2 => exact rfl); (case c3 => exact rfl); (case c4 => exact rfl))
  intro g' L' h' FG' F' N' hlt B' X' T'
  dsimp only
  replace F' : Fr g' L' h' (fun y => List.lookup y [(Str.ofString "many", .int (k : Int) tn), (Str.ofString "row", .bytes b tb)]) := F'
  refine wpS_execs_any ?_
  k_steps
  rename Fr _ _ _ _ => F1
  rename News _ _ _ _ => N1
  rename KBw.bInts (KBy.picked b none _) = _ => hf
  rename KBw.bInts (KBy.picked b _ none) = _ => hr
  rw [Nat.min_eq_left (Nat.le_of_lt hk)] at hf hr
  rw [List.take_of_length_le (by rw [List.length_drop]; omega)] at hr
  generalize KBy.picked b none _ = f at hf F1 N1
  generalize KBy.picked b _ none = r at hr F1 N1
  dsimp only
  refine wpS_execs_cons (wpS_Assign_Name (wpS_BinOp ?_))
  refine wpS_join F1 N1 (ks.take k).reverse ?p1 ?q1
  case p1 =>
    refine wpS_IfExp (wpS_of ?_)
    k_steps
    · refine wpS_Call ?_
      k_steps
      refine wpS_callWith (P := fun h => Frag.In (Mine.hd.heap_39 w.params) h) (keeps_K (by k_is)) (wpS_of ?_)
      k_steps
      rename (_ != _) = true => hne
      with_unfolding_all refine' c_swapB f (ks.take k) _ _ (min k ks.length) _ hf (List.length_take ..) (by omega) (len_pos hne hf (List.length_take ..)) _ _ _ _ _ _ _ _ _ _ _ _ _ _ _ _ _ ?k1 ?k2 ?k3 ?k4 ?k5 ?k6 ?k7 ?k8 ?k9
      case k1 => k_asm
      case k2 => k_asm
      case k3 => k_asm
      case k4 => k_asm
      case k5 => k_asm
      case k6 => exact rfl
      case k7 => ktr_room
      case k8 => ktr_units
      case k9 =>
        intro c t h2 tk2 hc F2 N2
        exact ⟨c, t, h2, tk2, rfl, rfl, hc, F2, N2⟩
    · refine wpS_of ?_
      k_steps
      rename (_ != _) = false => hne
      dsimp only
      exact ⟨#[], _, _, _, rfl, rfl, none_rev hne hf, F1, N1⟩
  case q1 =>
  intro c1 t1 h1 tk1 hc1 F2 N2
  dsimp only
  refine wpS_join F2 N2 (ks.drop k).reverse ?p2 ?q2
  case p2 =>
    refine wpS_IfExp (wpS_of ?_)
    k_steps
    · refine wpS_Call ?_
      k_steps
      refine wpS_callWith (P := fun h => Frag.In (Mine.hd.heap_39 w.params) h) (keeps_K (by k_is)) (wpS_of ?_)
      k_steps
      rename (_ != _) = true => hne
      with_unfolding_all refine' c_swapB r (ks.drop k) _ _ (ks.length - k) _ hr (List.length_drop ..) (by omega) (len_pos hne hr (List.length_drop ..)) _ _ _ _ _ _ _ _ _ _ _ _ _ _ _ _ _ ?k1 ?k2 ?k3 ?k4 ?k5 ?k6 ?k7 ?k8 ?k9
      case k1 => k_asm
      case k2 => k_asm
      case k3 => k_asm
      case k4 => k_asm
      case k5 => k_asm
      case k6 => exact rfl
      case k7 => ktr_room
      case k8 => ktr_units
      case k9 =>
        intro c t h2 tk2 hc F2 N2
        exact ⟨c, t, h2, tk2, rfl, rfl, hc, F2, N2⟩
    · refine wpS_of ?_
      k_steps
      rename (_ != _) = false => hne
      dsimp only
      exact ⟨#[], _, _, _, rfl, rfl, none_rev hne hr, F2, N2⟩
  case q2 =>
  intro c2 t2 h2 tk2 hc2 F3 N3
  clear F1 N1 F2 N2
  dsimp only
  have hall : KBw.bInts (c1 ++ c2) = (ks.take k).reverse ++ (ks.drop k).reverse := KBw.ints_app hc1 hc2
  have hlen : ((ks.take k).reverse ++ (ks.drop k).reverse).length = ks.length := by
    rw [List.length_append, List.length_reverse, List.length_reverse, List.length_take, List.length_drop]; omega
  have hz : c1.size + c2.size = ks.length := by rw [← Array.size_append, ← KBw.ints_length, hall, hlen]
  refine wpS_of (KBy.add_bytes (by omega) ?_)
  intro t3 k3
  generalize c1 ++ c2 = both at hall
  generalize hbs : (ks.take k).reverse ++ (ks.drop k).reverse = bs at hall hlen
  k_steps
  rename Fr _ _ _ _ => F4
  rename News _ _ _ _ => N4
  skip
  dsimp only
  refine wpS_execs_cons (wpS_Return (wpS_join F4 N4 bs.reverse ?p3 ?q3))
  case p3 =>
    refine wpS_Call ?_
    k_steps
    refine wpS_callWith (P := fun h => Frag.In (Mine.hd.heap_39 w.params) h) (keeps_K (by k_is)) (wpS_of ?_)
    k_steps
    with_unfolding_all refine' c_swapB both bs _ _ bs.length _ hall rfl (by omega) (by omega) _ _ _ _ _ _ _ _ _ _ _ _ _ _ _ _ _ ?k1 ?k2 ?k3 ?k4 ?k5 ?k6 ?k7 ?k8 ?k9
    case k1 => k_asm
    case k2 => k_asm
    case k3 => k_asm
    case k4 => k_asm
    case k5 => k_asm
    case k6 => exact rfl
    case k7 => ktr_room
    case k8 => ktr_units
    case k9 =>
      intro c t h2 tk2 hc F2 N2
      exact ⟨c, t, h2, tk2, rfl, rfl, hc, F2, N2⟩
  case q3 =>
  intro c3 t3 h3 tk3 hc3 F5 N5
  skip
  dsimp only
  k_steps
  rename Fr _ _ _ _ => kF
  rename News _ _ _ _ => kN
  refine hret _ _ _ _ ?_ kF fun p hp => kN p (.tail _ hp)
  rw [hc3, ← hbs, List.reverse_append, List.reverse_reverse, List.reverse_reverse]
  rfl
end Mine
end PartC3
section PartD2
open PySem PySem.W PyProof.Rows
namespace Mine
local macro_rules | `(tactic| walk_at "binaryOp LShift int int") => `(tactic| (with_reducible refine Stop.go ?_))
local macro_rules | `(tactic| k_room) => `(tactic| ktr_room)
local macro_rules | `(tactic| k_units) => `(tactic| ktr_units)
set_option maxRecDepth 100000 in
set_option maxHeartbeats 8000000 in
theorem i2d_new2 {prog : Program} {w : World} {p : Program} {loose : List PySem.Str} {mean : ExcName → Option Value} {mg mb : PySem.Str → Option Value}
   (a n : Int) (ta tn : Tok) (news : List (Addr × Obj)) (ha : 0 < a) (ha2 : a < 256) (hn : 3 ≤ n) (hn2 : n ≤ 5) (hd : Int.fdiv ((Builtin.Int.intBits a : Int) + n - 1) n = 2) (hoff : OwnOff news [37]) :
  ∀ (dp un : Nat) (gd : Option (List Code)) (cn : PySem.Str) (cs : Scope) (c : Addr) (ccd : Value) (cl : List (PySem.Str × Addr)) (outer : List Env) (A₀ : Around) (base h₀ : Heap) (L : Addr) (m : PySem.Str → Option Value) (s : Shared) (Q E : Value → Shared → Prop),
    Below A₀ base outer h₀ → Fr h₀ L s.heap m → (Mine.hd.heap_39 w.params).In h₀ → News h₀ L s.heap ((37, tabObj #[]) :: news) → Top p loose mean mg mb h₀ → cs.kind = .function →
    dp + 8 < recursionLimit → un + 40 < cLine →
    (∀ D t0 t1 c' oc h' tk, Fr h₀ L h' m → News h₀ L h' ((D, W.listOf #[.int (loOf a n) t0, .int (hiOf a n) t1] 0) :: (37, tabObj #[rawInt 39, rawInt 4, .ref c']) :: (c', oc) :: news) → CodeOf qI oc → c' ≠ 44 → Q (.ref D) { s with heap := h', toks := tk }) →
      wpAny (model prog w) (ktrTop dp un gd cn cs L c ccd cl outer) (call (.ref 42) [.int a ta, .int n tn]) Q E s := by
  intro dp un gd cn cs c ccd cl outer A₀ base h₀ L m s Q E B F X N T hk hdp hun hret
  have codeHd : CodeHd h₀ (Prod.fst ((41, 37) : Addr × Addr)) (Prod.snd ((41, 37) : Addr × Addr)) := codeHd_of_K (c := 41) (P := 37) X (by kernel_rfl)
  have kMark : KstMark := kstMark
  refine wpAny_call ?_
  k_dflt (refine' code_defC ?k1 ?k2 ?k3 ?k4 ?k5 ?kA ?kF ?kK ?k6 ?k7 ?k8 ?k9 ?kB ?kD ?_ ?c2 ?c3 ?c4; (case kA => exact rfl); (case kF => exact rfl); (case kK => assumption); (case k1 => k_asm); (case k2 => k_asm); (case k3 => k_asm); (case k4 => k_asm); (case k5 => k_asm); (case k6 => k_is); (case k7 => k_is); (case k8 => k_room); (case k9 => exact BindsTo.of_eq rfl); (case kB => exact rfl); (case kD => decide +kernel); (case c2 => exact rfl); (case c3 => exact rfl); (case c4 => exact rfl); k_whole; intro g' L' h' tk' cells' FG' F' N' Y' B' X' T' l1; (try k_lt l1); k_cells Y'; (try simp only [List.cons_append, List.nil_append] at N'); (try dsimp only); (try k_lift B'); (try k_fold))
  rename 37 < L' ∧ AllLt L' news => lt0
  have lt0b := lt0.2
  have lt01 := allLt_le lt0b (Nat.le_add_right L' 1)
  have lt02 := allLt_le lt0b (Nat.le_add_right L' 2)
  have lt03 := allLt_le lt0b (Nat.le_add_right L' 3)
  k_steps
  replace codeHd : CodeHd g' 41 37 := CodeHd.keeps codeHd FG'.keep
  rename Fr _ _ _ _ => F1
  rename News _ _ _ _ => N1
  simp only [hd] at N1
  simp only [hd] at *
  replace N1 : News g' L' _ ((_, W.listOf (List.toArray [_, _]) 0) :: _) := N1
  k_steps
  all_goals (try (exfalso; rename (_ * n < 0) => hx; rw [show (Int.fdiv (0 + 2) (2 ^ Int.toNat 1) - 0) = 1 by decide] at hx; omega))
  all_goals (try (exfalso; rename (¬ (a ≠ 0)) => hx; omega))
  all_goals (try (exfalso; rename (a = 0) => hx; omega))
  unfold Stop
  refine lshift_int_small (by assumption) (by simp; omega) (shr_small (by omega) ha2) ?_
  k_steps
  rename Fr h₀ L _ _ => kF
  rename News h₀ L _ _ => kN
  rw [show (Int.fdiv (0 + 2) (2 ^ Int.toNat 1) - 0) * n = n by (rw [show (Int.fdiv (0 + 2) (2 ^ Int.toNat 1) - 0) = 1 by decide]; omega)] at kN
  rename _[1]? = some (Value.str _ _) => d2
  rename Obj.data _ = Data.fields _ => d1
  exact hret _ _ _ _ _ _ _ kF (news_cons kN (news_cons kN (news_cons kN (fun x hx => kN x (.tail _ (.tail _ (.tail _ (.tail _ (.tail _ (.tail _ (.tail _ (.tail _ (hx)))))))))) (.tail _ (.head _))) (.tail _ (.tail _ (.tail _ (.tail _ (.tail _ (.tail _ (.tail _ (.head _))))))))) (.tail _ (.tail _ (.head _)))) ⟨_, _, d1, d2⟩ (Nat.ne_of_gt (by have hL : (41 : Nat) < L' := (by obtain ⟨_, _, _, _, _, _, _, _, _, e, _⟩ := codeHd; exact Nat.lt_of_lt_of_le (Heap.lt_size e) (show Fr g' L' _ _ by assumption).above); omega))
set_option maxRecDepth 100000 in
set_option maxHeartbeats 8000000 in
theorem i2d_new1 {prog : Program} {w : World} {p : Program} {loose : List PySem.Str} {mean : ExcName → Option Value} {mg mb : PySem.Str → Option Value}
   (a n : Int) (ta tn : Tok) (news : List (Addr × Obj)) (ha : 0 < a) (ha2 : a < 256) (hn : 3 ≤ n) (hn2 : n ≤ 5) (hd : Int.fdiv ((Builtin.Int.intBits a : Int) + n - 1) n = 1) (hoff : OwnOff news [37]) :
  ∀ (dp un : Nat) (gd : Option (List Code)) (cn : PySem.Str) (cs : Scope) (c : Addr) (ccd : Value) (cl : List (PySem.Str × Addr)) (outer : List Env) (A₀ : Around) (base h₀ : Heap) (L : Addr) (m : PySem.Str → Option Value) (s : Shared) (Q E : Value → Shared → Prop),
    Below A₀ base outer h₀ → Fr h₀ L s.heap m → (Mine.hd.heap_39 w.params).In h₀ → News h₀ L s.heap ((37, tabObj #[]) :: news) → Top p loose mean mg mb h₀ → cs.kind = .function →
    dp + 8 < recursionLimit → un + 40 < cLine →
    (∀ D t0 c' oc h' tk, Fr h₀ L h' m → News h₀ L h' ((D, W.listOf #[.int a t0] 0) :: (37, tabObj #[rawInt 39, rawInt 4, .ref c']) :: (c', oc) :: news) → CodeOf qI oc → c' ≠ 44 → Q (.ref D) { s with heap := h', toks := tk }) →
      wpAny (model prog w) (ktrTop dp un gd cn cs L c ccd cl outer) (call (.ref 42) [.int a ta, .int n tn]) Q E s := by
  intro dp un gd cn cs c ccd cl outer A₀ base h₀ L m s Q E B F X N T hk hdp hun hret
  have codeHd : CodeHd h₀ (Prod.fst ((41, 37) : Addr × Addr)) (Prod.snd ((41, 37) : Addr × Addr)) := codeHd_of_K (c := 41) (P := 37) X (by kernel_rfl)
  have kMark : KstMark := kstMark
  refine wpAny_call ?_
  k_dflt (refine' code_defC ?k1 ?k2 ?k3 ?k4 ?k5 ?kA ?kF ?kK ?k6 ?k7 ?k8 ?k9 ?kB ?kD ?_ ?c2 ?c3 ?c4; (case kA => exact rfl); (case kF => exact rfl); (case kK => assumption); (case k1 => k_asm); (case k2 => k_asm); (case k3 => k_asm); (case k4 => k_asm); (case k5 => k_asm); (case k6 => k_is); (case k7 => k_is); (case k8 => k_room); (case k9 => exact BindsTo.of_eq rfl); (case kB => exact rfl); (case kD => decide +kernel); (case c2 => exact rfl); (case c3 => exact rfl); (case c4 => exact rfl); k_whole; intro g' L' h' tk' cells' FG' F' N' Y' B' X' T' l1; (try k_lt l1); k_cells Y'; (try simp only [List.cons_append, List.nil_append] at N'); (try dsimp only); (try k_lift B'); (try k_fold))
  rename 37 < L' ∧ AllLt L' news => lt0
  have lt0b := lt0.2
  have lt01 := allLt_le lt0b (Nat.le_add_right L' 1)
  have lt02 := allLt_le lt0b (Nat.le_add_right L' 2)
  have lt03 := allLt_le lt0b (Nat.le_add_right L' 3)
  k_steps
  replace codeHd : CodeHd g' 41 37 := CodeHd.keeps codeHd FG'.keep
  rename Fr _ _ _ _ => F1
  rename News _ _ _ _ => N1
  simp only [hd] at N1
  simp only [hd] at *
  replace N1 : News g' L' _ ((_, W.listOf (List.toArray [_]) 0) :: _) := N1
  k_steps
  all_goals (try (exfalso; rename (_ * n < 0) => hx; rw [show (Int.fdiv (0 + 2) (2 ^ Int.toNat 1) - 0) = 1 by decide] at hx; omega))
  all_goals (try (exfalso; rename (¬ (a ≠ 0)) => hx; omega))
  all_goals (try (exfalso; rename (a = 0) => hx; omega))
  rename Fr h₀ L _ _ => kF
  rename News h₀ L _ _ => kN
  rename _[1]? = some (Value.str _ _) => d2
  rename Obj.data _ = Data.fields _ => d1
  exact hret _ _ _ _ _ _ kF (news_cons kN (news_cons kN (news_cons kN (fun x hx => kN x (.tail _ (.tail _ (.tail _ (.tail _ (.tail _ (.tail _ (.tail _ (.tail _ (hx)))))))))) (.tail _ (.head _))) (.tail _ (.tail _ (.tail _ (.tail _ (.tail _ (.tail _ (.tail _ (.head _))))))))) (.tail _ (.tail _ (.head _)))) ⟨_, _, d1, d2⟩ (Nat.ne_of_gt (by have hL : (41 : Nat) < L' := (by obtain ⟨_, _, _, _, _, _, _, _, _, e, _⟩ := codeHd; exact Nat.lt_of_lt_of_le (Heap.lt_size e) (show Fr g' L' _ _ by assumption).above); omega))
set_option maxRecDepth 100000 in
set_option maxHeartbeats 8000000 in
theorem i2d_full2 {prog : Program} {w : World} {p : Program} {loose : List PySem.Str} {mean : ExcName → Option Value} {mg mb : PySem.Str → Option Value}
   (a n : Int) (ta tn : Tok) (news : List (Addr × Obj)) (c0 : Addr) (oc : Obj) (hco : CodeOf qI oc) (ha : 0 < a) (ha2 : a < 256) (hn : 3 ≤ n) (hn2 : n ≤ 5) (hd : Int.fdiv ((Builtin.Int.intBits a : Int) + n - 1) n = 2) (hoff : OwnOff news [37]) :
  ∀ (dp un : Nat) (gd : Option (List Code)) (cn : PySem.Str) (cs : Scope) (c : Addr) (ccd : Value) (cl : List (PySem.Str × Addr)) (outer : List Env) (A₀ : Around) (base h₀ : Heap) (L : Addr) (m : PySem.Str → Option Value) (s : Shared) (Q E : Value → Shared → Prop),
    Below A₀ base outer h₀ → Fr h₀ L s.heap m → (Mine.hd.heap_39 w.params).In h₀ → News h₀ L s.heap ((37, tabObj #[rawInt 39, rawInt 4, .ref c0]) :: (c0, oc) :: news) → Top p loose mean mg mb h₀ → cs.kind = .function →
    dp + 8 < recursionLimit → un + 40 < cLine →
    (∀ D t0 t1 h' tk, Fr h₀ L h' m → News h₀ L h' ((D, W.listOf #[.int (loOf a n) t0, .int (hiOf a n) t1] 0) :: (37, tabObj #[rawInt 39, rawInt 4, .ref c0]) :: (c0, oc) :: news) → Q (.ref D) { s with heap := h', toks := tk }) →
      wpAny (model prog w) (ktrTop dp un gd cn cs L c ccd cl outer) (call (.ref 42) [.int a ta, .int n tn]) Q E s := by
  intro dp un gd cn cs c ccd cl outer A₀ base h₀ L m s Q E B F X N T hk hdp hun hret
  have codeHd : CodeHd h₀ (Prod.fst ((41, 37) : Addr × Addr)) (Prod.snd ((41, 37) : Addr × Addr)) := codeHd_of_K (c := 41) (P := 37) X (by kernel_rfl)
  have kMark : KstMark := kstMark
  obtain ⟨vs, tq, hco1, hco2⟩ := hco
  refine wpAny_call ?_
  k_dflt (refine' code_defC ?k1 ?k2 ?k3 ?k4 ?k5 ?kA ?kF ?kK ?k6 ?k7 ?k8 ?k9 ?kB ?kD ?_ ?c2 ?c3 ?c4; (case kA => exact rfl); (case kF => exact rfl); (case kK => assumption); (case k1 => k_asm); (case k2 => k_asm); (case k3 => k_asm); (case k4 => k_asm); (case k5 => k_asm); (case k6 => k_is); (case k7 => k_is); (case k8 => k_room); (case k9 => exact BindsTo.of_eq rfl); (case kB => exact rfl); (case kD => decide +kernel); (case c2 => exact rfl); (case c3 => exact rfl); (case c4 => exact rfl); k_whole; intro g' L' h' tk' cells' FG' F' N' Y' B' X' T' l1; (try k_lt l1); k_cells Y'; (try simp only [List.cons_append, List.nil_append] at N'); (try dsimp only); (try k_lift B'); (try k_fold))
  rename 37 < L' ∧ c0 < L' ∧ AllLt L' news => lt0
  have lt0b := lt0.2.2
  have lt01 := allLt_le lt0b (Nat.le_add_right L' 1)
  have lt02 := allLt_le lt0b (Nat.le_add_right L' 2)
  have lt03 := allLt_le lt0b (Nat.le_add_right L' 3)
  k_steps
  replace codeHd : CodeHd g' 41 37 := CodeHd.keeps codeHd FG'.keep
  rename Fr _ _ _ _ => F1
  rename News _ _ _ _ => N1
  simp only [hd] at N1
  simp only [hd] at *
  replace N1 : News g' L' _ ((_, W.listOf (List.toArray [_, _]) 0) :: _) := N1
  k_steps
  all_goals (try (exfalso; rename (_ * n < 0) => hx; rw [show (Int.fdiv (0 + 2) (2 ^ Int.toNat 1) - 0) = 1 by decide] at hx; omega))
  all_goals (try (exfalso; rename (¬ (a ≠ 0)) => hx; omega))
  all_goals (try (exfalso; rename (a = 0) => hx; omega))
  unfold Stop
  refine lshift_int_small (by assumption) (by simp; omega) (shr_small (by omega) ha2) ?_
  k_steps
  rename Fr h₀ L _ _ => kF
  rename News h₀ L _ _ => kN
  rw [show (Int.fdiv (0 + 2) (2 ^ Int.toNat 1) - 0) * n = n by (rw [show (Int.fdiv (0 + 2) (2 ^ Int.toNat 1) - 0) = 1 by decide]; omega)] at kN
  exact hret _ _ _ _ _ kF (news_cons kN (news_cons kN (news_cons kN (fun x hx => kN x (.tail _ (.tail _ (.tail _ (.tail _ (.tail _ (.tail _ (.tail _ (.tail _ (hx)))))))))) (.tail _ (.tail _ (.tail _ (.tail _ (.tail _ (.tail _ (.tail _ (.head _))))))))) (.tail _ (.tail _ (.tail _ (.tail _ (.tail _ (.tail _ (.head _)))))))) (.tail _ (.head _)))
set_option maxRecDepth 100000 in
set_option maxHeartbeats 8000000 in
theorem i2d_full1 {prog : Program} {w : World} {p : Program} {loose : List PySem.Str} {mean : ExcName → Option Value} {mg mb : PySem.Str → Option Value}
   (a n : Int) (ta tn : Tok) (news : List (Addr × Obj)) (c0 : Addr) (oc : Obj) (hco : CodeOf qI oc) (ha : 0 < a) (ha2 : a < 256) (hn : 3 ≤ n) (hn2 : n ≤ 5) (hd : Int.fdiv ((Builtin.Int.intBits a : Int) + n - 1) n = 1) (hoff : OwnOff news [37]) :
  ∀ (dp un : Nat) (gd : Option (List Code)) (cn : PySem.Str) (cs : Scope) (c : Addr) (ccd : Value) (cl : List (PySem.Str × Addr)) (outer : List Env) (A₀ : Around) (base h₀ : Heap) (L : Addr) (m : PySem.Str → Option Value) (s : Shared) (Q E : Value → Shared → Prop),
    Below A₀ base outer h₀ → Fr h₀ L s.heap m → (Mine.hd.heap_39 w.params).In h₀ → News h₀ L s.heap ((37, tabObj #[rawInt 39, rawInt 4, .ref c0]) :: (c0, oc) :: news) → Top p loose mean mg mb h₀ → cs.kind = .function →
    dp + 8 < recursionLimit → un + 40 < cLine →
    (∀ D t0 h' tk, Fr h₀ L h' m → News h₀ L h' ((D, W.listOf #[.int a t0] 0) :: (37, tabObj #[rawInt 39, rawInt 4, .ref c0]) :: (c0, oc) :: news) → Q (.ref D) { s with heap := h', toks := tk }) →
      wpAny (model prog w) (ktrTop dp un gd cn cs L c ccd cl outer) (call (.ref 42) [.int a ta, .int n tn]) Q E s := by
  intro dp un gd cn cs c ccd cl outer A₀ base h₀ L m s Q E B F X N T hk hdp hun hret
  have codeHd : CodeHd h₀ (Prod.fst ((41, 37) : Addr × Addr)) (Prod.snd ((41, 37) : Addr × Addr)) := codeHd_of_K (c := 41) (P := 37) X (by kernel_rfl)
  have kMark : KstMark := kstMark
  obtain ⟨vs, tq, hco1, hco2⟩ := hco
  refine wpAny_call ?_
  k_dflt (refine' code_defC ?k1 ?k2 ?k3 ?k4 ?k5 ?kA ?kF ?kK ?k6 ?k7 ?k8 ?k9 ?kB ?kD ?_ ?c2 ?c3 ?c4; (case kA => exact rfl); (case kF => exact rfl); (case kK => assumption); (case k1 => k_asm); (case k2 => k_asm); (case k3 => k_asm); (case k4 => k_asm); (case k5 => k_asm); (case k6 => k_is); (case k7 => k_is); (case k8 => k_room); (case k9 => exact BindsTo.of_eq rfl); (case kB => exact rfl); (case kD => decide +kernel); (case c2 => exact rfl); (case c3 => exact rfl); (case c4 => exact rfl); k_whole; intro g' L' h' tk' cells' FG' F' N' Y' B' X' T' l1; (try k_lt l1); k_cells Y'; (try simp only [List.cons_append, List.nil_append] at N'); (try dsimp only); (try k_lift B'); (try k_fold))
  rename 37 < L' ∧ c0 < L' ∧ AllLt L' news => lt0
  have lt0b := lt0.2.2
  have lt01 := allLt_le lt0b (Nat.le_add_right L' 1)
  have lt02 := allLt_le lt0b (Nat.le_add_right L' 2)
  have lt03 := allLt_le lt0b (Nat.le_add_right L' 3)
  k_steps
  replace codeHd : CodeHd g' 41 37 := CodeHd.keeps codeHd FG'.keep
  rename Fr _ _ _ _ => F1
  rename News _ _ _ _ => N1
  simp only [hd] at N1
  simp only [hd] at *
  replace N1 : News g' L' _ ((_, W.listOf (List.toArray [_]) 0) :: _) := N1
  k_steps
  all_goals (try (exfalso; rename (_ * n < 0) => hx; rw [show (Int.fdiv (0 + 2) (2 ^ Int.toNat 1) - 0) = 1 by decide] at hx; omega))
  all_goals (try (exfalso; rename (¬ (a ≠ 0)) => hx; omega))
  all_goals (try (exfalso; rename (a = 0) => hx; omega))
  rename Fr h₀ L _ _ => kF
  rename News h₀ L _ _ => kN
  exact hret _ _ _ _ kF (news_cons kN (news_cons kN (news_cons kN (fun x hx => kN x (.tail _ (.tail _ (.tail _ (.tail _ (.tail _ (.tail _ (.tail _ (.tail _ (hx)))))))))) (.tail _ (.tail _ (.tail _ (.tail _ (.tail _ (.tail _ (.tail _ (.head _))))))))) (.tail _ (.tail _ (.tail _ (.tail _ (.tail _ (.tail _ (.head _)))))))) (.tail _ (.head _)))
end Mine
end PartD2
section PartD3
open PySem PySem.W PyProof.Rows
namespace Mine
local macro_rules | `(tactic| walk_at "binaryOp LShift int int") => `(tactic| (with_reducible refine Stop.go ?_))
local macro_rules | `(tactic| k_room) => `(tactic| ktr_room)
local macro_rules | `(tactic| k_units) => `(tactic| ktr_units)
set_option maxRecDepth 100000 in
set_option maxHeartbeats 8000000 in
theorem d2i_new2 {prog : Program} {w : World} {p : Program} {loose : List PySem.Str} {mean : ExcName → Option Value} {mg mb : PySem.Str → Option Value}
   (D : Addr) (x y n : Int) (t0 t1 tn : Tok) (nn : Nat) (news : List (Addr × Obj)) (hy : 0 ≤ y) (hy2 : y < 256) (hn : 3 ≤ n) (hn2 : n ≤ 5) (hD : D ≠ 44) (hoff : OwnOff news [44]) :
  ∀ (dp un : Nat) (gd : Option (List Code)) (cn : PySem.Str) (cs : Scope) (c : Addr) (ccd : Value) (cl : List (PySem.Str × Addr)) (outer : List Env) (A₀ : Around) (base h₀ : Heap) (L : Addr) (m : PySem.Str → Option Value) (s : Shared) (Q E : Value → Shared → Prop),
    Below A₀ base outer h₀ → Fr h₀ L s.heap m → (Mine.hd.heap_39 w.params).In h₀ → News h₀ L s.heap ((44, tabObj #[]) :: (D, W.listOf #[.int x t0, .int y t1] nn) :: news) → Top p loose mean mg mb h₀ → cs.kind = .function →
    dp + 8 < recursionLimit → un + 40 < cLine →
    (∀ t c' oc h' tk, Fr h₀ L h' m → News h₀ L h' ((44, tabObj #[rawInt 54, rawInt 4, .ref c']) :: (c', oc) :: (D, W.listOf #[.int x t0, .int y t1] nn) :: news) → CodeOf qD oc → c' ≠ 37 → Q (.int (y * 2 ^ n.toNat + x) t) { s with heap := h', toks := tk }) →
      wpAny (model prog w) (ktrTop dp un gd cn cs L c ccd cl outer) (call (.ref 49) [.ref D, .int n tn]) Q E s := by
  intro dp un gd cn cs c ccd cl outer A₀ base h₀ L m s Q E B F X N T hk hdp hun hret
  have codeHd : CodeHd h₀ (Prod.fst ((48, 44) : Addr × Addr)) (Prod.snd ((48, 44) : Addr × Addr)) := codeHd_of_K (c := 48) (P := 44) X (by kernel_rfl)
  have kMark : KstMark := kstMark
  refine wpAny_call ?_
  k_dflt (refine' code_defC ?k1 ?k2 ?k3 ?k4 ?k5 ?kA ?kF ?kK ?k6 ?k7 ?k8 ?k9 ?kB ?kD ?_ ?c2 ?c3 ?c4; (case kA => exact rfl); (case kF => exact rfl); (case kK => assumption); (case k1 => k_asm); (case k2 => k_asm); (case k3 => k_asm); (case k4 => k_asm); (case k5 => k_asm); (case k6 => k_is); (case k7 => k_is); (case k8 => k_room); (case k9 => exact BindsTo.of_eq rfl); (case kB => exact rfl); (case kD => decide +kernel); (case c2 => exact rfl); (case c3 => exact rfl); (case c4 => exact rfl); k_whole; intro g' L' h' tk' cells' FG' F' N' Y' B' X' T' l1; (try k_lt l1); k_cells Y'; (try simp only [List.cons_append, List.nil_append] at N'); (try dsimp only); (try k_lift B'); (try k_fold))
  rename 44 < L' ∧ D < L' ∧ AllLt L' news => lt0
  have lt0b := lt0.2.2
  have lt01 := allLt_le lt0b (Nat.le_add_right L' 1)
  have lt02 := allLt_le lt0b (Nat.le_add_right L' 2)
  have lt03 := allLt_le lt0b (Nat.le_add_right L' 3)
  replace codeHd : CodeHd g' 48 44 := CodeHd.keeps codeHd FG'.keep
  k_steps
  unfold Stop
  have e1 : (Int.fdiv (0 + 2) (2 ^ Int.toNat 1) - 0) * n = n := by rw [show (Int.fdiv (0 + 2) (2 ^ Int.toNat 1) - 0) = 1 by decide]; omega
  refine lshift_int_small (by rw [e1]; omega) (by rw [e1]; omega) (by omega) ?_
  k_steps
  rename Fr h₀ L _ _ => kF
  rename News h₀ L _ _ => kN
  rw [show (Int.fdiv (0 + 2) (2 ^ Int.toNat 1) - 0) * n = n by rw [show (Int.fdiv (0 + 2) (2 ^ Int.toNat 1) - 0) = 1 by decide]; omega]
  rename _[1]? = some (Value.str _ _) => d2
  rename Obj.data _ = Data.fields _ => d1
  exact hret _ _ _ _ _ kF (news_cons kN (news_cons kN (news_cons kN (fun x hx => kN x (.tail _ (.tail _ (.tail _ (.tail _ (.tail _ (.tail _ (.tail _ (hx))))))))) (.tail _ (.tail _ (.tail _ (.tail _ (.tail _ (.tail _ (.head _)))))))) (.tail _ (.head _))) (.tail _ (.tail _ (.tail _ (.tail _ (.tail _ (.head _))))))) ⟨_, _, d1, d2⟩ (Nat.ne_of_gt (by have hL : (41 : Nat) < L' := (by obtain ⟨_, _, _, _, _, _, _, _, _, e, _⟩ := codeHd; exact Nat.lt_trans (by decide) (Nat.lt_of_lt_of_le (Heap.lt_size e) (show Fr g' L' _ _ by assumption).above)); omega))
set_option maxRecDepth 100000 in
set_option maxHeartbeats 8000000 in
theorem d2i_new1 {prog : Program} {w : World} {p : Program} {loose : List PySem.Str} {mean : ExcName → Option Value} {mg mb : PySem.Str → Option Value}
   (D : Addr) (x y n : Int) (t0 t1 tn : Tok) (nn : Nat) (news : List (Addr × Obj)) (hy : 0 ≤ y) (hy2 : y < 256) (hn : 3 ≤ n) (hn2 : n ≤ 5) (hD : D ≠ 44) (hoff : OwnOff news [44]) :
  ∀ (dp un : Nat) (gd : Option (List Code)) (cn : PySem.Str) (cs : Scope) (c : Addr) (ccd : Value) (cl : List (PySem.Str × Addr)) (outer : List Env) (A₀ : Around) (base h₀ : Heap) (L : Addr) (m : PySem.Str → Option Value) (s : Shared) (Q E : Value → Shared → Prop),
    Below A₀ base outer h₀ → Fr h₀ L s.heap m → (Mine.hd.heap_39 w.params).In h₀ → News h₀ L s.heap ((44, tabObj #[]) :: (D, W.listOf #[.int x t0] nn) :: news) → Top p loose mean mg mb h₀ → cs.kind = .function →
    dp + 8 < recursionLimit → un + 40 < cLine →
    (∀ t c' oc h' tk, Fr h₀ L h' m → News h₀ L h' ((44, tabObj #[rawInt 54, rawInt 4, .ref c']) :: (c', oc) :: (D, W.listOf #[.int x t0] nn) :: news) → CodeOf qD oc → c' ≠ 37 → Q (.int x t) { s with heap := h', toks := tk }) →
      wpAny (model prog w) (ktrTop dp un gd cn cs L c ccd cl outer) (call (.ref 49) [.ref D, .int n tn]) Q E s := by
  intro dp un gd cn cs c ccd cl outer A₀ base h₀ L m s Q E B F X N T hk hdp hun hret
  have codeHd : CodeHd h₀ (Prod.fst ((48, 44) : Addr × Addr)) (Prod.snd ((48, 44) : Addr × Addr)) := codeHd_of_K (c := 48) (P := 44) X (by kernel_rfl)
  have kMark : KstMark := kstMark
  refine wpAny_call ?_
  k_dflt (refine' code_defC ?k1 ?k2 ?k3 ?k4 ?k5 ?kA ?kF ?kK ?k6 ?k7 ?k8 ?k9 ?kB ?kD ?_ ?c2 ?c3 ?c4; (case kA => exact rfl); (case kF => exact rfl); (case kK => assumption); (case k1 => k_asm); (case k2 => k_asm); (case k3 => k_asm); (case k4 => k_asm); (case k5 => k_asm); (case k6 => k_is); (case k7 => k_is); (case k8 => k_room); (case k9 => exact BindsTo.of_eq rfl); (case kB => exact rfl); (case kD => decide +kernel); (case c2 => exact rfl); (case c3 => exact rfl); (case c4 => exact rfl); k_whole; intro g' L' h' tk' cells' FG' F' N' Y' B' X' T' l1; (try k_lt l1); k_cells Y'; (try simp only [List.cons_append, List.nil_append] at N'); (try dsimp only); (try k_lift B'); (try k_fold))
  rename 44 < L' ∧ D < L' ∧ AllLt L' news => lt0
  have lt0b := lt0.2.2
  have lt01 := allLt_le lt0b (Nat.le_add_right L' 1)
  have lt02 := allLt_le lt0b (Nat.le_add_right L' 2)
  have lt03 := allLt_le lt0b (Nat.le_add_right L' 3)
  replace codeHd : CodeHd g' 48 44 := CodeHd.keeps codeHd FG'.keep
  k_steps
  rename Fr h₀ L _ _ => kF
  rename News h₀ L _ _ => kN
  rename _[1]? = some (Value.str _ _) => d2
  rename Obj.data _ = Data.fields _ => d1
  exact hret _ _ _ _ _ kF (news_cons kN (news_cons kN (news_cons kN (fun x hx => kN x (.tail _ (.tail _ (.tail _ (.tail _ (.tail _ (.tail _ (.tail _ (hx))))))))) (.tail _ (.tail _ (.tail _ (.tail _ (.tail _ (.tail _ (.head _)))))))) (.tail _ (.head _))) (.tail _ (.tail _ (.tail _ (.tail _ (.tail _ (.head _))))))) ⟨_, _, d1, d2⟩ (Nat.ne_of_gt (by have hL : (41 : Nat) < L' := (by obtain ⟨_, _, _, _, _, _, _, _, _, e, _⟩ := codeHd; exact Nat.lt_trans (by decide) (Nat.lt_of_lt_of_le (Heap.lt_size e) (show Fr g' L' _ _ by assumption).above)); omega))
set_option maxRecDepth 100000 in
set_option maxHeartbeats 8000000 in
theorem d2i_full2 {prog : Program} {w : World} {p : Program} {loose : List PySem.Str} {mean : ExcName → Option Value} {mg mb : PySem.Str → Option Value}
   (D : Addr) (x y n : Int) (t0 t1 tn : Tok) (nn : Nat) (news : List (Addr × Obj)) (c0 : Addr) (oc : Obj) (hco : CodeOf qD oc) (hy : 0 ≤ y) (hy2 : y < 256) (hn : 3 ≤ n) (hn2 : n ≤ 5) (hD : D ≠ 44) (hoff : OwnOff news [44]) :
  ∀ (dp un : Nat) (gd : Option (List Code)) (cn : PySem.Str) (cs : Scope) (c : Addr) (ccd : Value) (cl : List (PySem.Str × Addr)) (outer : List Env) (A₀ : Around) (base h₀ : Heap) (L : Addr) (m : PySem.Str → Option Value) (s : Shared) (Q E : Value → Shared → Prop),
    Below A₀ base outer h₀ → Fr h₀ L s.heap m → (Mine.hd.heap_39 w.params).In h₀ → News h₀ L s.heap ((44, tabObj #[rawInt 54, rawInt 4, .ref c0]) :: (c0, oc) :: (D, W.listOf #[.int x t0, .int y t1] nn) :: news) → Top p loose mean mg mb h₀ → cs.kind = .function →
    dp + 8 < recursionLimit → un + 40 < cLine →
    (∀ t h' tk, Fr h₀ L h' m → News h₀ L h' ((44, tabObj #[rawInt 54, rawInt 4, .ref c0]) :: (c0, oc) :: (D, W.listOf #[.int x t0, .int y t1] nn) :: news) → Q (.int (y * 2 ^ n.toNat + x) t) { s with heap := h', toks := tk }) →
      wpAny (model prog w) (ktrTop dp un gd cn cs L c ccd cl outer) (call (.ref 49) [.ref D, .int n tn]) Q E s := by
  intro dp un gd cn cs c ccd cl outer A₀ base h₀ L m s Q E B F X N T hk hdp hun hret
  have codeHd : CodeHd h₀ (Prod.fst ((48, 44) : Addr × Addr)) (Prod.snd ((48, 44) : Addr × Addr)) := codeHd_of_K (c := 48) (P := 44) X (by kernel_rfl)
  have kMark : KstMark := kstMark
  obtain ⟨vs, tq, hco1, hco2⟩ := hco
  refine wpAny_call ?_
  k_dflt (refine' code_defC ?k1 ?k2 ?k3 ?k4 ?k5 ?kA ?kF ?kK ?k6 ?k7 ?k8 ?k9 ?kB ?kD ?_ ?c2 ?c3 ?c4; (case kA => exact rfl); (case kF => exact rfl); (case kK => assumption); (case k1 => k_asm); (case k2 => k_asm); (case k3 => k_asm); (case k4 => k_asm); (case k5 => k_asm); (case k6 => k_is); (case k7 => k_is); (case k8 => k_room); (case k9 => exact BindsTo.of_eq rfl); (case kB => exact rfl); (case kD => decide +kernel); (case c2 => exact rfl); (case c3 => exact rfl); (case c4 => exact rfl); k_whole; intro g' L' h' tk' cells' FG' F' N' Y' B' X' T' l1; (try k_lt l1); k_cells Y'; (try simp only [List.cons_append, List.nil_append] at N'); (try dsimp only); (try k_lift B'); (try k_fold))
  rename 44 < L' ∧ c0 < L' ∧ D < L' ∧ AllLt L' news => lt0
  have lt0b := lt0.2.2.2
  have lt01 := allLt_le lt0b (Nat.le_add_right L' 1)
  have lt02 := allLt_le lt0b (Nat.le_add_right L' 2)
  have lt03 := allLt_le lt0b (Nat.le_add_right L' 3)
  replace codeHd : CodeHd g' 48 44 := CodeHd.keeps codeHd FG'.keep
  k_steps
  unfold Stop
  have e1 : (Int.fdiv (0 + 2) (2 ^ Int.toNat 1) - 0) * n = n := by rw [show (Int.fdiv (0 + 2) (2 ^ Int.toNat 1) - 0) = 1 by decide]; omega
  refine lshift_int_small (by rw [e1]; omega) (by rw [e1]; omega) (by omega) ?_
  k_steps
  rename Fr h₀ L _ _ => kF
  rename News h₀ L _ _ => kN
  rw [show (Int.fdiv (0 + 2) (2 ^ Int.toNat 1) - 0) * n = n by rw [show (Int.fdiv (0 + 2) (2 ^ Int.toNat 1) - 0) = 1 by decide]; omega]
  exact hret _ _ _ kF (news_cons kN (news_cons kN (news_cons kN (fun x hx => kN x (.tail _ (.tail _ (.tail _ (.tail _ (.tail _ (.tail _ (.tail _ (hx))))))))) (.tail _ (.tail _ (.tail _ (.tail _ (.tail _ (.tail _ (.head _)))))))) (.tail _ (.tail _ (.tail _ (.tail _ (.tail _ (.head _))))))) (.tail _ (.tail _ (.tail _ (.tail _ (.head _))))))
set_option maxRecDepth 100000 in
set_option maxHeartbeats 8000000 in
theorem d2i_full1 {prog : Program} {w : World} {p : Program} {loose : List PySem.Str} {mean : ExcName → Option Value} {mg mb : PySem.Str → Option Value}
   (D : Addr) (x y n : Int) (t0 t1 tn : Tok) (nn : Nat) (news : List (Addr × Obj)) (c0 : Addr) (oc : Obj) (hco : CodeOf qD oc) (hy : 0 ≤ y) (hy2 : y < 256) (hn : 3 ≤ n) (hn2 : n ≤ 5) (hD : D ≠ 44) (hoff : OwnOff news [44]) :
  ∀ (dp un : Nat) (gd : Option (List Code)) (cn : PySem.Str) (cs : Scope) (c : Addr) (ccd : Value) (cl : List (PySem.Str × Addr)) (outer : List Env) (A₀ : Around) (base h₀ : Heap) (L : Addr) (m : PySem.Str → Option Value) (s : Shared) (Q E : Value → Shared → Prop),
    Below A₀ base outer h₀ → Fr h₀ L s.heap m → (Mine.hd.heap_39 w.params).In h₀ → News h₀ L s.heap ((44, tabObj #[rawInt 54, rawInt 4, .ref c0]) :: (c0, oc) :: (D, W.listOf #[.int x t0] nn) :: news) → Top p loose mean mg mb h₀ → cs.kind = .function →
    dp + 8 < recursionLimit → un + 40 < cLine →
    (∀ t h' tk, Fr h₀ L h' m → News h₀ L h' ((44, tabObj #[rawInt 54, rawInt 4, .ref c0]) :: (c0, oc) :: (D, W.listOf #[.int x t0] nn) :: news) → Q (.int x t) { s with heap := h', toks := tk }) →
      wpAny (model prog w) (ktrTop dp un gd cn cs L c ccd cl outer) (call (.ref 49) [.ref D, .int n tn]) Q E s := by
  intro dp un gd cn cs c ccd cl outer A₀ base h₀ L m s Q E B F X N T hk hdp hun hret
  have codeHd : CodeHd h₀ (Prod.fst ((48, 44) : Addr × Addr)) (Prod.snd ((48, 44) : Addr × Addr)) := codeHd_of_K (c := 48) (P := 44) X (by kernel_rfl)
  have kMark : KstMark := kstMark
  obtain ⟨vs, tq, hco1, hco2⟩ := hco
  refine wpAny_call ?_
  k_dflt (refine' code_defC ?k1 ?k2 ?k3 ?k4 ?k5 ?kA ?kF ?kK ?k6 ?k7 ?k8 ?k9 ?kB ?kD ?_ ?c2 ?c3 ?c4; (case kA => exact rfl); (case kF => exact rfl); (case kK => assumption); (case k1 => k_asm); (case k2 => k_asm); (case k3 => k_asm); (case k4 => k_asm); (case k5 => k_asm); (case k6 => k_is); (case k7 => k_is); (case k8 => k_room); (case k9 => exact BindsTo.of_eq rfl); (case kB => exact rfl); (case kD => decide +kernel); (case c2 => exact rfl); (case c3 => exact rfl); (case c4 => exact rfl); k_whole; intro g' L' h' tk' cells' FG' F' N' Y' B' X' T' l1; (try k_lt l1); k_cells Y'; (try simp only [List.cons_append, List.nil_append] at N'); (try dsimp only); (try k_lift B'); (try k_fold))
  rename 44 < L' ∧ c0 < L' ∧ D < L' ∧ AllLt L' news => lt0
  have lt0b := lt0.2.2.2
  have lt01 := allLt_le lt0b (Nat.le_add_right L' 1)
  have lt02 := allLt_le lt0b (Nat.le_add_right L' 2)
  have lt03 := allLt_le lt0b (Nat.le_add_right L' 3)
  replace codeHd : CodeHd g' 48 44 := CodeHd.keeps codeHd FG'.keep
  k_steps
  rename Fr h₀ L _ _ => kF
  rename News h₀ L _ _ => kN
  exact hret _ _ _ kF (news_cons kN (news_cons kN (news_cons kN (fun x hx => kN x (.tail _ (.tail _ (.tail _ (.tail _ (.tail _ (.tail _ (.tail _ (hx))))))))) (.tail _ (.tail _ (.tail _ (.tail _ (.tail _ (.tail _ (.head _)))))))) (.tail _ (.tail _ (.tail _ (.tail _ (.tail _ (.head _))))))) (.tail _ (.tail _ (.tail _ (.tail _ (.head _))))))
end Mine
end PartD3
section PartD4
open PySem PySem.W PyProof.Rows
namespace Mine
set_option maxRecDepth 100000 in
set_option maxHeartbeats 8000000 in
theorem c_div {prog : Program} {w : World} {p : Program} {loose : List PySem.Str} {mean : ExcName → Option Value} {mg mb : PySem.Str → Option Value}
   (a b n : Int) (ta tb tn : Tok) (news : List (Addr × Obj)) (ha : 0 ≤ a) (ha2 : a < 1024) (hb : 0 < b) (hb2 : b < 32) (hn : 3 ≤ n) (hn2 : n ≤ 5) :
  ∀ (dp un : Nat) (gd : Option (List Code)) (cn : PySem.Str) (cs : Scope) (c : Addr) (ccd : Value) (cl : List (PySem.Str × Addr)) (outer : List Env) (A₀ : Around) (base h₀ : Heap) (L : Addr) (m : PySem.Str → Option Value) (s : Shared) (Q E : Value → Shared → Prop),
    Below A₀ base outer h₀ → Fr h₀ L s.heap m → (Mine.hd.heap_39 w.params).In h₀ → News h₀ L s.heap news → Top p loose mean mg mb h₀ → cs.kind = .function →
    dp + 8 < recursionLimit → un + 40 < cLine →
    (∀ D t1 t2 h' tk, Fr h₀ L h' m → News h₀ L h' ((D, { cls := .type "tuple", data := .seq #[.int (Int.fdiv a b) t1, .int (Int.fmod a b) t2] }) :: news) → AllLt D news → Q (.ref D) { s with heap := h', toks := tk }) →
      wpAny (model prog w) (ktrTop dp un gd cn cs L c ccd cl outer) (call (.ref 28) [.int a ta, .int b tb, .int n tn]) Q E s := by
  intros
  rename_i hret
  have hbits : (Builtin.Int.intBits a : Int) ≤ 10 := by
    have := (PySem.intBits_le_iff (m := 10) (x := a)).mpr (by show _ < 1024; omega)
    omega
  refine wpAny_call ?_
  k_dflt cell_enter
  k_steps
  rename Fr _ _ _ _ => kF
  rename News _ _ _ _ => kN
  rename News _ _ _ news => Nb
  exact hret _ _ _ _ _ kF kN (allLt_of fun p hp => Heap.lt_size (Nb p hp).1)
end Mine
end PartD4
section PartD5
open PySem PySem.W PyProof.Rows
namespace Mine
section
variable {prog : Program} {w : World} {p : Program} {loose : List PySem.Str} {mean : ExcName → Option Value} {mg mb : PySem.Str → Option Value}
  {dp un : Nat} {gd : Option (List Code)} {cn : PySem.Str} {cs : Scope} {c : Addr} {ccd : Value} {cl : List (PySem.Str × Addr)} {outer : List Env} {A₀ : Around} {base h₀ : Heap} {L : Addr} {m : PySem.Str → Option Value} {s : Shared} {Q E : Value → Shared → Prop}
theorem c_i2d2 (a n : Int) (ta tn : Tok) (T news nw : List (Addr × Obj)) (ha : 0 < a) (ha2 : a < 256) (hn : 3 ≤ n) (hn2 : n ≤ 5) (hd : Int.fdiv ((Builtin.Int.intBits a : Int) + n - 1) n = 2) (hT : TabI T) (hoff : OwnOff news [37]) (hs : ∀ x ∈ T ++ news, x ∈ nw)
    (B : Below A₀ base outer h₀) (F : Fr h₀ L s.heap m) (X : (Mine.hd.heap_39 w.params).In h₀) (N : News h₀ L s.heap nw) (Tp : Top p loose mean mg mb h₀) (hk : cs.kind = .function)
    (hdp : dp + 8 < recursionLimit) (hun : un + 40 < cLine)
    (hret : ∀ D T' t0 t1 h' tk, TabIF T' → (TabIF T → T' = T) → Fr h₀ L h' m → News h₀ L h' ((D, W.listOf #[.int (loOf a n) t0, .int (hiOf a n) t1] 0) :: (T' ++ news)) → Q (.ref D) { s with heap := h', toks := tk }) :
    wpAny (model prog w) (ktrTop dp un gd cn cs L c ccd cl outer) (call (.ref 42) [.int a ta, .int n tn]) Q E s := by
  rcases hT with rfl | ⟨c0, oc, rfl, hco, hc44⟩
  · exact i2d_new2 a n ta tn news ha ha2 hn hn2 hd hoff dp un gd cn cs c ccd cl outer A₀ base h₀ L m s Q E B F X (news_sub N hs) Tp hk hdp hun
      (fun D t0 t1 c' oc h' tk F' N' hco hc => hret D _ t0 t1 h' tk ⟨c', oc, rfl, hco, hc⟩ (fun h => absurd h not_IF) F' N')
  · exact i2d_full2 a n ta tn news c0 oc hco ha ha2 hn hn2 hd hoff dp un gd cn cs c ccd cl outer A₀ base h₀ L m s Q E B F X (news_sub N hs) Tp hk hdp hun
      (fun D t0 t1 h' tk F' N' => hret D _ t0 t1 h' tk ⟨c0, oc, rfl, hco, hc44⟩ (fun _ => rfl) F' N')
theorem c_i2d1 (a n : Int) (ta tn : Tok) (T news nw : List (Addr × Obj)) (ha : 0 < a) (ha2 : a < 256) (hn : 3 ≤ n) (hn2 : n ≤ 5) (hd : Int.fdiv ((Builtin.Int.intBits a : Int) + n - 1) n = 1) (hT : TabI T) (hoff : OwnOff news [37]) (hs : ∀ x ∈ T ++ news, x ∈ nw)
    (B : Below A₀ base outer h₀) (F : Fr h₀ L s.heap m) (X : (Mine.hd.heap_39 w.params).In h₀) (N : News h₀ L s.heap nw) (Tp : Top p loose mean mg mb h₀) (hk : cs.kind = .function)
    (hdp : dp + 8 < recursionLimit) (hun : un + 40 < cLine)
    (hret : ∀ D T' t0 h' tk, TabIF T' → (TabIF T → T' = T) → Fr h₀ L h' m → News h₀ L h' ((D, W.listOf #[.int a t0] 0) :: (T' ++ news)) → Q (.ref D) { s with heap := h', toks := tk }) :
    wpAny (model prog w) (ktrTop dp un gd cn cs L c ccd cl outer) (call (.ref 42) [.int a ta, .int n tn]) Q E s := by
  rcases hT with rfl | ⟨c0, oc, rfl, hco, hc44⟩
  · exact i2d_new1 a n ta tn news ha ha2 hn hn2 hd hoff dp un gd cn cs c ccd cl outer A₀ base h₀ L m s Q E B F X (news_sub N hs) Tp hk hdp hun
      (fun D t0 c' oc h' tk F' N' hco hc => hret D _ t0 h' tk ⟨c', oc, rfl, hco, hc⟩ (fun h => absurd h not_IF) F' N')
  · exact i2d_full1 a n ta tn news c0 oc hco ha ha2 hn hn2 hd hoff dp un gd cn cs c ccd cl outer A₀ base h₀ L m s Q E B F X (news_sub N hs) Tp hk hdp hun
      (fun D t0 h' tk F' N' => hret D _ t0 h' tk ⟨c0, oc, rfl, hco, hc44⟩ (fun _ => rfl) F' N')
theorem c_d2i2 (D : Addr) (x y n : Int) (t0 t1 tn : Tok) (nn : Nat) (T news nw : List (Addr × Obj)) (hy : 0 ≤ y) (hy2 : y < 256) (hn : 3 ≤ n) (hn2 : n ≤ 5) (hD : D ≠ 44) (hT : TabD T) (hoff : OwnOff news [44]) (hs : ∀ z ∈ T ++ ((D, W.listOf #[.int x t0, .int y t1] nn) :: news), z ∈ nw)
    (B : Below A₀ base outer h₀) (F : Fr h₀ L s.heap m) (X : (Mine.hd.heap_39 w.params).In h₀) (N : News h₀ L s.heap nw) (Tp : Top p loose mean mg mb h₀) (hk : cs.kind = .function)
    (hdp : dp + 8 < recursionLimit) (hun : un + 40 < cLine)
    (hret : ∀ T' t h' tk, TabDF T' → (TabDF T → T' = T) → Fr h₀ L h' m → News h₀ L h' (T' ++ ((D, W.listOf #[.int x t0, .int y t1] nn) :: news)) → Q (.int (y * 2 ^ n.toNat + x) t) { s with heap := h', toks := tk }) :
    wpAny (model prog w) (ktrTop dp un gd cn cs L c ccd cl outer) (call (.ref 49) [.ref D, .int n tn]) Q E s := by
  rcases hT with rfl | ⟨c0, oc, rfl, hco, hc44⟩
  · exact d2i_new2 D x y n t0 t1 tn nn news hy hy2 hn hn2 hD hoff dp un gd cn cs c ccd cl outer A₀ base h₀ L m s Q E B F X (news_sub N hs) Tp hk hdp hun
      (fun t c' oc h' tk F' N' hco hc => hret _ t h' tk ⟨c', oc, rfl, hco, hc⟩ (fun h => absurd h not_DF) F' N')
  · exact d2i_full2 D x y n t0 t1 tn nn news c0 oc hco hy hy2 hn hn2 hD hoff dp un gd cn cs c ccd cl outer A₀ base h₀ L m s Q E B F X (news_sub N hs) Tp hk hdp hun
      (fun t h' tk F' N' => hret _ t h' tk ⟨c0, oc, rfl, hco, hc44⟩ (fun _ => rfl) F' N')
theorem c_d2i1 (D : Addr) (x n : Int) (t0 tn : Tok) (nn : Nat) (T news nw : List (Addr × Obj)) (hn : 3 ≤ n) (hn2 : n ≤ 5) (hD : D ≠ 44) (hT : TabD T) (hoff : OwnOff news [44]) (hs : ∀ z ∈ T ++ ((D, W.listOf #[.int x t0] nn) :: news), z ∈ nw)
    (B : Below A₀ base outer h₀) (F : Fr h₀ L s.heap m) (X : (Mine.hd.heap_39 w.params).In h₀) (N : News h₀ L s.heap nw) (Tp : Top p loose mean mg mb h₀) (hk : cs.kind = .function)
    (hdp : dp + 8 < recursionLimit) (hun : un + 40 < cLine)
    (hret : ∀ T' t h' tk, TabDF T' → (TabDF T → T' = T) → Fr h₀ L h' m → News h₀ L h' (T' ++ ((D, W.listOf #[.int x t0] nn) :: news)) → Q (.int x t) { s with heap := h', toks := tk }) :
    wpAny (model prog w) (ktrTop dp un gd cn cs L c ccd cl outer) (call (.ref 49) [.ref D, .int n tn]) Q E s := by
  rcases hT with rfl | ⟨c0, oc, rfl, hco, hc44⟩
  · exact d2i_new1 D x 0 n t0 0 tn nn news (by decide) (by decide) hn hn2 hD hoff dp un gd cn cs c ccd cl outer A₀ base h₀ L m s Q E B F X (news_sub N hs) Tp hk hdp hun
      (fun t c' oc h' tk F' N' hco hc => hret _ t h' tk ⟨c', oc, rfl, hco, hc⟩ (fun h => absurd h not_DF) F' N')
  · exact d2i_full1 D x 0 n t0 0 tn nn news c0 oc hco (by decide) (by decide) hn hn2 hD hoff dp un gd cn cs c ccd cl outer A₀ base h₀ L m s Q E B F X (news_sub N hs) Tp hk hdp hun
      (fun t h' tk F' N' => hret _ t h' tk ⟨c0, oc, rfl, hco, hc44⟩ (fun _ => rfl) F' N')
end
theorem offI_lt {I : Addr} {it : Obj} : ∀ {l : List (Addr × Obj)}, AllLt I l → OffI I it l
  | [], _ => trivial
  | _ :: _, h => ⟨.inl (Nat.ne_of_lt h.1), offI_lt h.2⟩
theorem tabD_mem {T : List (Addr × Obj)} (h : TabD T) : ∃ o, (44, o) ∈ T := by
  rcases h with rfl | ⟨c, oc, rfl, _, hc⟩
  · exact ⟨_, .head _⟩
  · exact ⟨_, .head _⟩
theorem tabI_off {T : List (Addr × Obj)} (h : TabI T) : OwnOff T [44] := by
  rcases h with rfl | ⟨c, oc, rfl, _, hc⟩
  · exact off_cons (by decide) off_nil
  · exact off_cons (by intro d hd; rw [List.mem_singleton.mp hd]; exact (by decide : (37 : Nat) ≠ 44)) (off_cons (by intro d hd; rw [List.mem_singleton.mp hd]; exact hc) off_nil)
theorem tabD_off {T : List (Addr × Obj)} (h : TabD T) : OwnOff T [37] := by
  rcases h with rfl | ⟨c, oc, rfl, _, hc⟩
  · exact off_cons (by decide) off_nil
  · exact off_cons (by intro d hd; rw [List.mem_singleton.mp hd]; exact (by decide : (44 : Nat) ≠ 37)) (off_cons (by intro d hd; rw [List.mem_singleton.mp hd]; exact hc) off_nil)
end Mine
end PartD5
section PartD6
open PySem PySem.W PyProof.Rows
namespace Mine
local macro_rules | `(tactic| walk_at "binaryOp LShift int int") => `(tactic| (with_reducible refine Stop.go ?_))
local macro_rules | `(tactic| walk_at "call ref") => `(tactic| (with_reducible refine Stop.go ?_))
local macro_rules | `(tactic| k_room) => `(tactic| ktr_room)
local macro_rules | `(tactic| k_units) => `(tactic| ktr_units)
set_option maxRecDepth 100000 in
set_option maxHeartbeats 8000000 in
theorem dmp2 {prog : Program} {w : World} {p : Program} {loose : List PySem.Str} {mean : ExcName → Option Value} {mg mb : PySem.Str → Option Value}
   (a b n : Int) (ta tb : Tok) (T1 T2 news : List (Addr × Obj)) (ha : 0 < a) (ha2 : a < 256) (hb : 0 < b) (hb2 : b < 32) (hnb : (Builtin.Int.intBits b : Int) = n) (hn : 3 ≤ n) (hn2 : n ≤ 5) (hd : Int.fdiv ((Builtin.Int.intBits a : Int) + n - 1) n = 2)
   (x1 x2 : Int) (ex1 : x1 = 0 * 2 ^ n.toNat + hiOf a n) (ex2 : x2 = Int.fmod x1 b * 2 ^ n.toNat + loOf a n) (hx1 : 0 ≤ x1 ∧ x1 < 1024) (hx2 : 0 ≤ x2 ∧ x2 < 1024) (hq : 0 ≤ Int.fdiv x1 b ∧ Int.fdiv x1 b < 256)
   (hT1 : TabI T1) (hT2 : TabD T2) (hoff : OwnOff news [37, 44]) :
  ∀ (dp un : Nat) (gd : Option (List Code)) (cn : PySem.Str) (cs : Scope) (c : Addr) (ccd : Value) (cl : List (PySem.Str × Addr)) (outer : List Env) (A₀ : Around) (base h₀ : Heap) (L : Addr) (m : PySem.Str → Option Value) (s : Shared) (Q E : Value → Shared → Prop),
    Below A₀ base outer h₀ → Fr h₀ L s.heap m → (Mine.hd.heap_39 w.params).In h₀ → News h₀ L s.heap (T1 ++ (T2 ++ news)) → Top p loose mean mg mb h₀ → cs.kind = .function →
    dp + 12 < recursionLimit → un + 60 < cLine →
    (∀ D T1' T2' t1 t2 h' tk, TabIF T1' → TabDF T2' → (TabIF T1 → T1' = T1) → (TabDF T2 → T2' = T2) → (∀ p ∈ T1' ++ (T2' ++ news), p.1 < D) → Fr h₀ L h' m → News h₀ L h' ((D, { cls := .type "tuple", data := .seq #[.int (Int.fdiv x1 b * 2 ^ n.toNat + Int.fdiv x2 b) t1, .int (Int.fmod x2 b) t2] }) :: (T1' ++ (T2' ++ news))) → Q (.ref D) { s with heap := h', toks := tk }) →
      wpAny (model prog w) (ktrTop dp un gd cn cs L c ccd cl outer) (call (.ref 56) [.int a ta, .int b tb]) Q E s := by
  intro dp un gd cn cs c ccd cl outer A₀ base h₀ L m s Q E B F X N Tp hk hdp hun hret
  have kMark : KstMark := kstMark
  have hs : ∀ x ∈ T1 ++ (T2 ++ news), x ∈ T1 ++ (T2 ++ news) := fun _ h => h
  generalize hnw : T1 ++ (T2 ++ news) = nw at N
  replace hs : ∀ x ∈ T1 ++ (T2 ++ news), x ∈ nw := fun x h => hnw ▸ h
  refine wpAny_call ?_
  k_dflt cell_enter
  k_steps
  unfold Stop
  rename Fr _ _ _ _ => F1
  rename News _ _ _ _ => N1
  replace F1 : Fr _ _ _ (fun y => if y = Str.ofString "n" then some (.int (↑(Builtin.Int.intBits b)) _) else List.lookup y [(Str.ofString "b", .int b tb), (Str.ofString "a", .int a ta)]) := F1
  rw [hnb] at F1 ⊢
  with_unfolding_all refine' c_i2d2 a n _ _ T1 (T2 ++ news) nw ha ha2 hn hn2 hd hT1 (off_app (tabD_off hT2) (off_less hoff (by decide))) hs ?k1 ?k2 ?k3 ?k4 ?k5 ?k6 ?k7 ?k8 ?k9
  case k1 => k_asm
  case k2 => k_asm
  case k3 => k_asm
  case k4 => k_asm
  case k5 => k_asm
  case k6 => exact rfl
  case k7 => ktr_room
  case k8 => ktr_units
  case k9 =>
  intro D T1' t0 t1 h2 tk2 hT1f hT1e F2 N2
  have hT1' := hT1f.tab
  clear F1 N1 hs hnw
  have hs : ∀ x ∈ T1' ++ (T2 ++ news), x ∈ T1' ++ (T2 ++ news) := fun _ h => h
  generalize hnw : T1' ++ (T2 ++ news) = nw1 at N2
  replace hs : ∀ x ∈ T1' ++ (T2 ++ news), x ∈ nw1 := fun x h => hnw ▸ h
  dsimp only
  k_steps
  rename _ ∧ D < _ ∧ AllLt _ nw1 => lt3
  rename D < _ ∧ AllLt _ nw1 => lt2
  have lt3b := lt3.2.2
  have lt2b := lt2.2
  rename Fr _ _ _ _ => F1
  rename News _ _ _ _ => N1
  with_unfolding_all refine iter_revUnr (lo := W.listOf #[.int (loOf a n) t0, .int (hiOf a n) t1] 0) (vs := [.int (loOf a n) t0, .int (hiOf a n) t1]) rfl F1 N1 ⟨.inl (Nat.ne_of_lt lt3.1), .inl (Nat.ne_of_lt lt3.2.1), offI_lt lt3b⟩ (.tail _ (.head _)) rfl rfl ?_
  clear F1 N1
  with_unfolding_all show RevRest _ _ _ _ _ _ _ _ _ _ _ _ [.int (hiOf a n) t1, .int (loOf a n) t0] _ _
  refine RevRest.succ (fun it1 h3 tk3 hit1 F3 N3 => ?_)
  k_steps
  unfold Stop
  refine lshift_int_small (by omega) (by omega) (by decide) ?_
  k_steps
  unfold Stop
  rw [← ex1]
  with_unfolding_all refine' c_div x1 b n _ _ _ _ hx1.1 hx1.2 hb hb2 hn hn2 _ _ _ _ _ _ _ _ _ _ _ _ _ _ _ _ _ ?k1 ?k2 ?k3 ?k4 ?k5 ?k6 ?k7 ?k8 ?k9
  case k1 => k_asm
  case k2 => k_asm
  case k3 => k_asm
  case k4 => k_asm
  case k5 => k_asm
  case k6 => exact rfl
  case k7 => ktr_room
  case k8 => ktr_units
  case k9 =>
  intro D1 t2 t3 h4 tk4 F4 N4 lt4
  simp only [AllLt] at lt4
  clear F3 N3
  k_steps
  rename Fr _ _ _ _ => F1
  rename News _ _ _ _ => N1
  refine UnrEnd.intro F1 N1 _ (fun p hp => .tail _ hp) (fun p hp => Nat.ne_of_lt (kst_ltOf (l := (_, _) :: (_, _) :: nw1) ⟨lt3.1, lt3.2.1, lt3b⟩ p hp)) ⟨.tail _ (.head _), ?_⟩
  clear F1 N1
  refine RevRest.succ (fun it2 h5 tk5 hit2 F3 N3 => ?_)
  k_steps
  unfold Stop
  have hr1 : 0 ≤ Int.fmod x1 b ∧ Int.fmod x1 b < 32 := ⟨Int.fmod_nonneg_of_pos _ hb, Int.lt_trans (Int.fmod_lt_of_pos _ hb) hb2⟩
  refine lshift_int_small (by omega) (by omega) (by omega) ?_
  k_steps
  unfold Stop
  rw [← ex2]
  with_unfolding_all refine' c_div x2 b n _ _ _ _ hx2.1 hx2.2 hb hb2 hn hn2 _ _ _ _ _ _ _ _ _ _ _ _ _ _ _ _ _ ?k1 ?k2 ?k3 ?k4 ?k5 ?k6 ?k7 ?k8 ?k9
  case k1 => k_asm
  case k2 => k_asm
  case k3 => k_asm
  case k4 => k_asm
  case k5 => k_asm
  case k6 => exact rfl
  case k7 => ktr_room
  case k8 => ktr_units
  case k9 =>
  intro D2 t4 t5 h6 tk6 F4 N4 lt5
  simp only [AllLt] at lt5
  clear F3 N3
  k_steps
  rename Fr _ _ _ _ => F1
  rename News _ _ _ _ => N1
  refine UnrEnd.intro F1 N1 _ (fun p hp => .tail _ hp) (fun p hp => Nat.ne_of_lt (kst_ltOf (l := (_, _) :: (_, _) :: nw1) ⟨lt3.1, lt3.2.1, lt3b⟩ p hp)) ⟨.tail _ (.head _), ?_⟩
  clear F1 N1
  refine RevRest.zero (fun h7 tk7 F5 N5 => ?_)
  k_steps
  unfold Stop
  rename Fr _ _ _ _ => F1
  rename News _ _ _ _ => N1
  have h44 : ∀ x : Addr, AllLt x nw1 → x ≠ 44 := fun x hx => by
    obtain ⟨o, ho⟩ := tabD_mem hT2
    exact Nat.ne_of_gt (kst_ltOf hx _ (hs _ (List.mem_append_right _ (List.mem_append_left _ ho))))
  have hs2 : ∀ {q : Addr × Obj} {q2 : Addr × Obj}, ∀ z ∈ T2 ++ (q :: (T1' ++ news)), z ∈ q :: q2 :: nw1 := fun z hz => by
    rcases List.mem_append.mp hz with h | h
    · exact .tail _ (.tail _ (hs _ (List.mem_append_right _ (List.mem_append_left _ h))))
    · rcases List.mem_cons.mp h with rfl | h
      · exact .head _
      · refine .tail _ (.tail _ (hs _ ?_))
        rcases List.mem_append.mp h with h | h
        · exact List.mem_append_left _ h
        · exact List.mem_append_right _ (List.mem_append_right _ h)
  have hq1 : 0 ≤ Int.fdiv x1 b ∧ Int.fdiv x1 b < 256 := hq
  with_unfolding_all refine' c_d2i2 _ (Int.fdiv x2 b) (Int.fdiv x1 b) n _ _ _ _ T2 (T1' ++ news) _ hq1.1 hq1.2 hn hn2 (h44 _ lt2b) hT2 (off_app (tabI_off hT1') (off_less hoff (by decide))) hs2 ?k1 ?k2 ?k3 ?k4 ?k5 ?k6 ?k7 ?k8 ?k9
  case k1 => k_asm
  case k2 => k_asm
  case k3 => k_asm
  case k4 => exact N1
  case k5 => k_asm
  case k6 => exact rfl
  case k7 => ktr_room
  case k8 => ktr_units
  case k9 =>
  intro T2' t6 h8 tk8 hT2f hT2e F6 N6
  clear F1 N1 hs
  replace N6 := news_sub (l' := T1' ++ (T2' ++ news)) N6 (fun z hz => by
    rcases List.mem_append.mp hz with h | h
    · exact List.mem_append_right _ (.tail _ (List.mem_append_left _ h))
    · rcases List.mem_append.mp h with h | h
      · exact List.mem_append_left _ h
      · exact List.mem_append_right _ (.tail _ (List.mem_append_right _ h)))
  generalize hnw2 : T1' ++ (T2' ++ news) = nw2 at N6
  k_steps
  rename ∀ p, p ∈ nw2 → _ => ltD
  subst hnw2
  rename Fr _ _ _ _ => F1
  rename News _ _ _ _ => N1
  exact hret _ T1' T2' _ _ _ _ hT1f hT2f hT1e hT2e ltD F1 N1
set_option maxRecDepth 100000 in
set_option maxHeartbeats 8000000 in
theorem dmp1 {prog : Program} {w : World} {p : Program} {loose : List PySem.Str} {mean : ExcName → Option Value} {mg mb : PySem.Str → Option Value}
   (a b n : Int) (ta tb : Tok) (T1 T2 news : List (Addr × Obj)) (ha : 0 < a) (ha2 : a < 256) (hb : 0 < b) (hb2 : b < 32) (hnb : (Builtin.Int.intBits b : Int) = n) (hn : 3 ≤ n) (hn2 : n ≤ 5) (hd : Int.fdiv ((Builtin.Int.intBits a : Int) + n - 1) n = 1)
   (x1 : Int) (ex1 : x1 = 0 * 2 ^ n.toNat + a) (hx1 : 0 ≤ x1 ∧ x1 < 1024)
   (hT1 : TabI T1) (hT2 : TabD T2) (hoff : OwnOff news [37, 44]) :
  ∀ (dp un : Nat) (gd : Option (List Code)) (cn : PySem.Str) (cs : Scope) (c : Addr) (ccd : Value) (cl : List (PySem.Str × Addr)) (outer : List Env) (A₀ : Around) (base h₀ : Heap) (L : Addr) (m : PySem.Str → Option Value) (s : Shared) (Q E : Value → Shared → Prop),
    Below A₀ base outer h₀ → Fr h₀ L s.heap m → (Mine.hd.heap_39 w.params).In h₀ → News h₀ L s.heap (T1 ++ (T2 ++ news)) → Top p loose mean mg mb h₀ → cs.kind = .function →
    dp + 12 < recursionLimit → un + 60 < cLine →
    (∀ D T1' T2' t1 t2 h' tk, TabIF T1' → TabDF T2' → (TabIF T1 → T1' = T1) → (TabDF T2 → T2' = T2) → (∀ p ∈ T1' ++ (T2' ++ news), p.1 < D) → Fr h₀ L h' m → News h₀ L h' ((D, { cls := .type "tuple", data := .seq #[.int (Int.fdiv x1 b) t1, .int (Int.fmod x1 b) t2] }) :: (T1' ++ (T2' ++ news))) → Q (.ref D) { s with heap := h', toks := tk }) →
      wpAny (model prog w) (ktrTop dp un gd cn cs L c ccd cl outer) (call (.ref 56) [.int a ta, .int b tb]) Q E s := by
  intro dp un gd cn cs c ccd cl outer A₀ base h₀ L m s Q E B F X N Tp hk hdp hun hret
  have kMark : KstMark := kstMark
  have hs : ∀ x ∈ T1 ++ (T2 ++ news), x ∈ T1 ++ (T2 ++ news) := fun _ h => h
  generalize hnw : T1 ++ (T2 ++ news) = nw at N
  replace hs : ∀ x ∈ T1 ++ (T2 ++ news), x ∈ nw := fun x h => hnw ▸ h
  refine wpAny_call ?_
  k_dflt cell_enter
  k_steps
  unfold Stop
  rename Fr _ _ _ _ => F1
  rename News _ _ _ _ => N1
  replace F1 : Fr _ _ _ (fun y => if y = Str.ofString "n" then some (.int (↑(Builtin.Int.intBits b)) _) else List.lookup y [(Str.ofString "b", .int b tb), (Str.ofString "a", .int a ta)]) := F1
  rw [hnb] at F1 ⊢
  with_unfolding_all refine' c_i2d1 a n _ _ T1 (T2 ++ news) nw ha ha2 hn hn2 hd hT1 (off_app (tabD_off hT2) (off_less hoff (by decide))) hs ?k1 ?k2 ?k3 ?k4 ?k5 ?k6 ?k7 ?k8 ?k9
  case k1 => k_asm
  case k2 => k_asm
  case k3 => k_asm
  case k4 => k_asm
  case k5 => k_asm
  case k6 => exact rfl
  case k7 => ktr_room
  case k8 => ktr_units
  case k9 =>
  intro D T1' t0 h2 tk2 hT1f hT1e F2 N2
  have hT1' := hT1f.tab
  clear F1 N1 hs hnw
  have hs : ∀ x ∈ T1' ++ (T2 ++ news), x ∈ T1' ++ (T2 ++ news) := fun _ h => h
  generalize hnw : T1' ++ (T2 ++ news) = nw1 at N2
  replace hs : ∀ x ∈ T1' ++ (T2 ++ news), x ∈ nw1 := fun x h => hnw ▸ h
  dsimp only
  k_steps
  rename _ ∧ D < _ ∧ AllLt _ nw1 => lt3
  rename D < _ ∧ AllLt _ nw1 => lt2
  have lt3b := lt3.2.2
  have lt2b := lt2.2
  rename Fr _ _ _ _ => F1
  rename News _ _ _ _ => N1
  with_unfolding_all refine iter_revUnr (lo := W.listOf #[.int a t0] 0) (vs := [.int a t0]) rfl F1 N1 ⟨.inl (Nat.ne_of_lt lt3.1), .inl (Nat.ne_of_lt lt3.2.1), offI_lt lt3b⟩ (.tail _ (.head _)) rfl rfl ?_
  clear F1 N1
  with_unfolding_all show RevRest _ _ _ _ _ _ _ _ _ _ _ _ [.int a t0] _ _
  refine RevRest.succ (fun it1 h3 tk3 hit1 F3 N3 => ?_)
  k_steps
  unfold Stop
  refine lshift_int_small (by omega) (by omega) (by decide) ?_
  k_steps
  unfold Stop
  rw [← ex1]
  with_unfolding_all refine' c_div x1 b n _ _ _ _ hx1.1 hx1.2 hb hb2 hn hn2 _ _ _ _ _ _ _ _ _ _ _ _ _ _ _ _ _ ?k1 ?k2 ?k3 ?k4 ?k5 ?k6 ?k7 ?k8 ?k9
  case k1 => k_asm
  case k2 => k_asm
  case k3 => k_asm
  case k4 => k_asm
  case k5 => k_asm
  case k6 => exact rfl
  case k7 => ktr_room
  case k8 => ktr_units
  case k9 =>
  intro D1 t2 t3 h4 tk4 F4 N4 lt4
  simp only [AllLt] at lt4
  clear F3 N3
  k_steps
  rename Fr _ _ _ _ => F1
  rename News _ _ _ _ => N1
  refine UnrEnd.intro F1 N1 _ (fun p hp => .tail _ hp) (fun p hp => Nat.ne_of_lt (kst_ltOf (l := (_, _) :: (_, _) :: nw1) ⟨lt3.1, lt3.2.1, lt3b⟩ p hp)) ⟨.tail _ (.head _), ?_⟩
  clear F1 N1
  refine RevRest.zero (fun h7 tk7 F5 N5 => ?_)
  k_steps
  unfold Stop
  rename Fr _ _ _ _ => F1
  rename News _ _ _ _ => N1
  have h44 : ∀ x : Addr, AllLt x nw1 → x ≠ 44 := fun x hx => by
    obtain ⟨o, ho⟩ := tabD_mem hT2
    exact Nat.ne_of_gt (kst_ltOf hx _ (hs _ (List.mem_append_right _ (List.mem_append_left _ ho))))
  have hs2 : ∀ {q : Addr × Obj} {q2 : Addr × Obj}, ∀ z ∈ T2 ++ (q :: (T1' ++ news)), z ∈ q :: q2 :: nw1 := fun z hz => by
    rcases List.mem_append.mp hz with h | h
    · exact .tail _ (.tail _ (hs _ (List.mem_append_right _ (List.mem_append_left _ h))))
    · rcases List.mem_cons.mp h with rfl | h
      · exact .head _
      · refine .tail _ (.tail _ (hs _ ?_))
        rcases List.mem_append.mp h with h | h
        · exact List.mem_append_left _ h
        · exact List.mem_append_right _ (List.mem_append_right _ h)
  with_unfolding_all refine' c_d2i1 _ (Int.fdiv x1 b) n _ _ _ T2 (T1' ++ news) _ hn hn2 (h44 _ lt2b) hT2 (off_app (tabI_off hT1') (off_less hoff (by decide))) hs2 ?k1 ?k2 ?k3 ?k4 ?k5 ?k6 ?k7 ?k8 ?k9
  case k1 => k_asm
  case k2 => k_asm
  case k3 => k_asm
  case k4 => exact N1
  case k5 => k_asm
  case k6 => exact rfl
  case k7 => ktr_room
  case k8 => ktr_units
  case k9 =>
  intro T2' t6 h8 tk8 hT2f hT2e F6 N6
  clear F1 N1 hs
  replace N6 := news_sub (l' := T1' ++ (T2' ++ news)) N6 (fun z hz => by
    rcases List.mem_append.mp hz with h | h
    · exact List.mem_append_right _ (.tail _ (List.mem_append_left _ h))
    · rcases List.mem_append.mp h with h | h
      · exact List.mem_append_left _ h
      · exact List.mem_append_right _ (.tail _ (List.mem_append_right _ h)))
  generalize hnw2 : T1' ++ (T2' ++ news) = nw2 at N6
  k_steps
  rename ∀ p, p ∈ nw2 → _ => ltD
  subst hnw2
  rename Fr _ _ _ _ => F1
  rename News _ _ _ _ => N1
  exact hret _ T1' T2' _ _ _ _ hT1f hT2f hT1e hT2e ltD F1 N1
end Mine
end PartD6
section PartD7
open PySem PySem.W PyProof.Rows
namespace Mine
def chk (p a : Int) : Bool :=
  let n : Int := (Builtin.Int.intBits p : Int)
  let k := Int.fdiv ((Builtin.Int.intBits a : Int) + n - 1) n
  let y := 0 * 2 ^ n.toNat + a
  let x1 := 0 * 2 ^ n.toNat + hiOf a n
  let x2 := Int.fmod x1 p * 2 ^ n.toNat + loOf a n
  decide (3 ≤ n ∧ n ≤ 5) &&
  ((decide (k = 2) && decide ((0 ≤ x1 ∧ x1 < 1024) ∧ (0 ≤ x2 ∧ x2 < 1024) ∧ (0 ≤ Int.fdiv x1 p ∧ Int.fdiv x1 p < 256)) && decide (Int.fdiv x1 p * 2 ^ n.toNat + Int.fdiv x2 p = Int.fdiv a p ∧ Int.fmod x2 p = Int.fmod a p)) ||
   (decide (k = 1) && decide (0 ≤ y ∧ y < 1024)))
def okP (p : Int) : Prop := p = 7 ∨ p = 17 ∨ p = 19 ∨ p = 23
theorem chk_all : (((List.range 6).all fun i => chk 7 (10 * ((i : Int) + 1))) && ((List.range 16).all fun i => chk 17 (10 * ((i : Int) + 1))) && ((List.range 18).all fun i => chk 19 (10 * ((i : Int) + 1))) && ((List.range 22).all fun i => chk 23 (10 * ((i : Int) + 1)))) = true := by decide +kernel
theorem chk_ok {p r : Int} (hp : okP p) (h1 : 1 ≤ r) (h2 : r < p) : chk p (10 * r) = true := by
  have hall := chk_all
  simp only [Bool.and_eq_true] at hall
  obtain ⟨⟨⟨c7, c17⟩, c19⟩, c23⟩ := hall
  have e : (((r - 1).toNat : Nat) : Int) + 1 = r := by omega
  rcases hp with rfl | rfl | rfl | rfl
  · have := List.all_eq_true.mp c7 (r - 1).toNat (List.mem_range.mpr (by omega)); rwa [e] at this
  · have := List.all_eq_true.mp c17 (r - 1).toNat (List.mem_range.mpr (by omega)); rwa [e] at this
  · have := List.all_eq_true.mp c19 (r - 1).toNat (List.mem_range.mpr (by omega)); rwa [e] at this
  · have := List.all_eq_true.mp c23 (r - 1).toNat (List.mem_range.mpr (by omega)); rwa [e] at this
local macro_rules | `(tactic| walk_at "call ref") => `(tactic| (with_reducible refine Stop.go ?_))
local macro_rules | `(tactic| k_room) => `(tactic| ktr_room)
local macro_rules | `(tactic| k_units) => `(tactic| ktr_units)
set_option maxRecDepth 100000 in
set_option maxHeartbeats 8000000 in
theorem c_dm {prog : Program} {w : World} {p : Program} {loose : List PySem.Str} {mean : ExcName → Option Value} {mg mb : PySem.Str → Option Value}
   (r b : Int) (ta tb : Tok) (T1 T2 news : List (Addr × Obj)) (hp : okP b) (hr : 1 ≤ r) (hr2 : r < b)
   (hT1 : TabI T1) (hT2 : TabD T2) (hoff : OwnOff news [37, 44]) :
  ∀ (dp un : Nat) (gd : Option (List Code)) (cn : PySem.Str) (cs : Scope) (c : Addr) (ccd : Value) (cl : List (PySem.Str × Addr)) (outer : List Env) (A₀ : Around) (base h₀ : Heap) (L : Addr) (m : PySem.Str → Option Value) (s : Shared) (Q E : Value → Shared → Prop),
    Below A₀ base outer h₀ → Fr h₀ L s.heap m → (Mine.hd.heap_39 w.params).In h₀ → News h₀ L s.heap (T1 ++ (T2 ++ news)) → Top p loose mean mg mb h₀ → cs.kind = .function →
    dp + 16 < recursionLimit → un + 80 < cLine →
    (∀ D T1' T2' t1 t2 h' tk, TabIF T1' → TabDF T2' → (TabIF T1 → T1' = T1) → (TabDF T2 → T2' = T2) → (∀ p ∈ T1' ++ (T2' ++ news), p.1 < D) → Fr h₀ L h' m → News h₀ L h' ((D, { cls := .type "tuple", data := .seq #[.int (Int.fdiv (10 * r) b) t1, .int (Int.fmod (10 * r) b) t2] }) :: (T1' ++ (T2' ++ news))) → Q (.ref D) { s with heap := h', toks := tk }) →
      wpAny (model prog w) (ktrTop dp un gd cn cs L c ccd cl outer) (call (.ref 63) [.int (10 * r) ta, .int b tb]) Q E s := by
  intro dp un gd cn cs c ccd cl outer A₀ base h₀ L m s Q E B F X N Tp hk hdp hun hret
  have hc := chk_ok hp hr hr2
  have hb : 0 < b ∧ b < 32 := by rcases hp with rfl | rfl | rfl | rfl <;> decide
  have ha : 0 < 10 * r ∧ 10 * r < 256 := by rcases hp with rfl | rfl | rfl | rfl <;> omega
  generalize 10 * r = a at ha hc hret
  clear hr hr2
  obtain ⟨ha1, ha2⟩ := ha
  obtain ⟨hb1, hb2⟩ := hb
  generalize hnw : T1 ++ (T2 ++ news) = nw at N
  refine wpAny_call ?_
  k_dflt cell_enter
  k_steps
  all_goals (try (exfalso; omega))
  unfold Stop
  subst hnw
  unfold chk at hc
  generalize hn : (Builtin.Int.intBits b : Int) = n at hc
  simp only [Bool.and_eq_true, Bool.or_eq_true, decide_eq_true_eq] at hc
  obtain ⟨⟨hn3, hn5⟩, ⟨⟨hk2, hx1, hx2, hq⟩, e1, e2⟩ | ⟨hk1, hy⟩⟩ := hc
  · with_unfolding_all refine' dmp2 a b n _ _ T1 T2 news ha1 ha2 hb1 hb2 hn hn3 hn5 hk2 _ _ rfl rfl hx1 hx2 hq hT1 hT2 hoff _ _ _ _ _ _ _ _ _ _ _ _ _ _ _ _ _ ?k1 ?k2 ?k3 ?k4 ?k5 ?k6 ?k7 ?k8 ?k9
    case k1 => k_asm
    case k2 => k_asm
    case k3 => k_asm
    case k4 => k_asm
    case k5 => k_asm
    case k6 => exact rfl
    case k7 => ktr_room
    case k8 => ktr_units
    case k9 =>
    intro D T1' T2' t1 t2 h2 tk2 hT1f hT2f hT1e hT2e ltD F2 N2
    rw [e1, e2] at N2
    dsimp only
    generalize hnw2 : T1' ++ (T2' ++ news) = nw2 at N2 ltD
    k_steps
    subst hnw2
    rename Fr _ _ _ _ => F1
    rename News _ _ _ _ => N1
    exact hret _ T1' T2' _ _ _ _ hT1f hT2f hT1e hT2e ltD F1 N1
  · with_unfolding_all refine' dmp1 a b n _ _ T1 T2 news ha1 ha2 hb1 hb2 hn hn3 hn5 hk1 _ rfl hy hT1 hT2 hoff _ _ _ _ _ _ _ _ _ _ _ _ _ _ _ _ _ ?k1 ?k2 ?k3 ?k4 ?k5 ?k6 ?k7 ?k8 ?k9
    case k1 => k_asm
    case k2 => k_asm
    case k3 => k_asm
    case k4 => k_asm
    case k5 => k_asm
    case k6 => exact rfl
    case k7 => ktr_room
    case k8 => ktr_units
    case k9 =>
    intro D T1' T2' t1 t2 h2 tk2 hT1f hT2f hT1e hT2e ltD F2 N2
    rw [show 0 * 2 ^ n.toNat + a = a by omega] at N2
    dsimp only
    generalize hnw2 : T1' ++ (T2' ++ news) = nw2 at N2 ltD
    k_steps
    subst hnw2
    rename Fr _ _ _ _ => F1
    rename News _ _ _ _ => N1
    exact hret _ T1' T2' _ _ _ _ hT1f hT2f hT1e hT2e ltD F1 N1
end Mine
end PartD7
section PartS9
open PySem PySem.W PyProof.Rows PySem.Calls
namespace Mine
section
variable {prog : Program} {w : World} {A : Around} {E : Value → Shared → Prop} {s : Shared} {env : Env} {h₀ : Heap} {x : Str} {body : List Stmt} {Q : Flow → Shared → Prop}
/-- a loop over a range whose ledger may grow from turn to turn -/
theorem kst_grow {σ : Type} {r : Addr} {a₀ b₀ : Int} {t₀ u₀ v₀ : Tok} {n : Nat} {m₀ : Str → Option Value} (Led : σ → List (Addr × Obj)) (ps : σ → List (Str × Value)) (Facts : σ → Prop) (stored : List Str) (P : Nat → σ → Prop) (z₀ : σ)
    (hh : A.handled = none) (hr : IsRange s.heap r a₀ b₀ 1 t₀ u₀ v₀) (hsmall : Builtin.Range.small a₀ b₀ 1 = true) (hn : Builtin.Range.rangeSize a₀ b₀ 1 = (n : Int)) (F : Fr h₀ env.locals s.heap m₀) (N : News h₀ env.locals s.heap (Led z₀))
    (hf : Facts z₀) (hk : ∀ p ∈ ps z₀, m₀ p.1 = some p.2) (hp : P 0 z₀)
    (turn : ∀ (I : Addr) (x1 x2 : Int) (c : σ) (i : Nat) t (u : Str → Option Value) h tk, i < n → (∀ p ∈ Led c, p.1 ≠ I) → AllLt I (Led z₀) → Facts c → P i c →
      Fr h₀ env.locals h (fun y => if y = x then some (.int (a₀ + (i : Int)) t) else kstB (fun z => if stored.contains z then u z else m₀ z) (ps c) y) → News h₀ env.locals h ((I, itR x1 x2) :: Led c) →
      wpAny (model prog w) A (execs body env) (UnrPost h₀ env.locals { s with heap := h, toks := tk } I (itR x1 x2) (KstS Led ps Facts x stored m₀ (fun pre c => P pre.length c) (List.replicate (i + 1) 0)) Q) E { s with heap := h, toks := tk })
    (done : ∀ (c : σ) (u : Str → Option Value) h tk, Facts c → P n c → Fr h₀ env.locals h (fun y => if y = x then u y else kstB (fun z => if stored.contains z then u z else m₀ z) (ps c) y) → News h₀ env.locals h (Led c) → Q .next { s with heap := h, toks := tk }) :
    wpAny (model prog w) A (pyIter (.ref r)) (fun it s₂ => LoopAtV prog w A h₀ env x body Q E it s₂) E s := by
  refine iter_rangeUnr hh hr hsmall hn F N fun I hI => ?_
  have key : ∀ k i m nx, i + k = n → (∀ p ∈ nx, p.1 ≠ I) → KstS Led ps Facts x stored m₀ (fun pre c => P pre.length c) (List.replicate i 0) m nx → RangeRest prog w A E h₀ env x body Q s I a₀ n k i m nx := by
    intro k
    induction k with
    | zero =>
      rintro i m nx e _ ⟨c, rfl, hf', h1, h2, hp'⟩
      obtain rfl : i = n := by omega
      rw [List.length_replicate] at hp'
      exact RangeRest.zero fun h tk F₁ N₁ => done c m h tk hf' hp' (kst_frOut h1 h2 F₁) N₁
    | succ k ih =>
      rintro i m nx e hoff ⟨c, rfl, hf', h1, h2, hp'⟩
      rw [List.length_replicate] at hp'
      refine RangeRest.succ fun t h tk F₁ N₁ => ?_
      refine wpAny_mono (turn I _ _ c i t m h tk (by omega) hoff (allLt_of hI) hf' hp' (kst_fr h1 h2 F₁) N₁) (fun f s₂ p => ?_) fun _ _ e => e
      have go : UnrEnd h₀ env.locals { s with heap := h, toks := tk } I (itR (a₀ + ((i + 1 : Nat) : Int)) ((n : Int) - ((i + 1 : Nat) : Int))) (KstS Led ps Facts x stored m₀ (fun pre c => P pre.length c) (List.replicate (i + 1) 0)) s₂ →
          UnrEnd h₀ env.locals { s with heap := h, toks := tk } I (itR (a₀ + ((i + 1 : Nat) : Int)) ((n : Int) - ((i + 1 : Nat) : Int))) (RangeRest prog w A E h₀ env x body Q s I a₀ n k (i + 1)) s₂ := by
        rintro ⟨h', tk', m', news', e1, F', N', off, r⟩
        exact ⟨h', tk', m', news', e1, F', N', off, ih (i + 1) m' news' (by omega) off r⟩
      cases f with
      | ret v => exact p
      | brk => exact p
      | next => exact go p
      | cont => exact go p
  exact key n 0 m₀ (Led z₀) (by omega) (fun p hp => Nat.ne_of_lt (hI p hp)) ⟨z₀, rfl, hf, hk, fun _ _ _ _ => rfl, hp⟩
theorem grow_end {σ : Type} {I : Addr} {it : Obj} {Led : σ → List (Addr × Obj)} {ps : σ → List (Str × Value)} {Facts : σ → Prop} {stored : List Str} {m₀ : Str → Option Value} {P : List Int → σ → Prop} {pre : List Int} (c : σ) {L : Addr} {m' : Str → Option Value} {all : List (Addr × Obj)} {s₁ : Shared} {h' : Heap} {tk : Nat}
    (F : Fr h₀ L h' m') (N : News h₀ L h' all) (hn : ∀ p ∈ (I, it) :: Led c, p ∈ all) (off : ∀ p ∈ Led c, p.1 ≠ I) (hf : Facts c) (hk : ∀ p ∈ ps c, m' p.1 = some p.2) (hr : ∀ z, z ≠ x → (∀ p ∈ ps c, z ≠ p.1) → stored.contains z = false → m' z = m₀ z) (hp : P pre c) :
    UnrEnd h₀ L s₁ I it (KstS Led ps Facts x stored m₀ P pre) { s₁ with heap := h', toks := tk } := UnrEnd.intro F N (Led c) hn off ⟨c, rfl, hf, hk, hr, hp⟩
end
/-- no entry of a code table, and no code object -/
def NotTab (o : Obj) : Prop := (∀ ps, o ≠ tabObj ps) ∧ ∀ q, ¬ CodeOf q o
theorem notTab_list (us : Array Value) (n : Nat) : NotTab (W.listOf us n) := ⟨fun ps e => (by cases e), fun q ⟨vs, t, e, _⟩ => (by cases e)⟩
theorem notTab_tuple (us : Array Value) : NotTab { cls := .type "tuple", data := .seq us } := ⟨fun ps e => (by cases e), fun q ⟨vs, t, e, _⟩ => (by cases e)⟩
theorem notTab_it (a b : Int) : NotTab (itR a b) := ⟨fun ps e => (by cases e), fun q ⟨vs, t, e, e2⟩ => (by cases e; cases e2)⟩
theorem tabI_ne {T l : List (Addr × Obj)} {h₀ h : Heap} {L R : Addr} {o : Obj} (hT : TabI T) (N : News h₀ L h l) (hs : ∀ x ∈ T, x ∈ l) (hR : (R, o) ∈ l) (ho : NotTab o) : ∀ p ∈ T, p.1 ≠ R := by
  intro p hp e
  have h1 := (N p (hs p hp)).1
  have h2 := (N _ hR).1
  rw [e] at h1
  have h3 : p.2 = o := Option.some.inj (h1.symm.trans h2)
  rcases hT with rfl | ⟨c, oc, rfl, hco, _⟩
  · rw [List.mem_singleton.mp hp] at h3; exact ho.1 _ h3.symm
  · rcases List.mem_cons.mp hp with rfl | hp
    · exact ho.1 _ h3.symm
    · rw [List.mem_singleton.mp hp] at h3; have h4 : oc = o := h3; exact ho.2 _ (h4 ▸ hco)
theorem tabD_ne {T l : List (Addr × Obj)} {h₀ h : Heap} {L R : Addr} {o : Obj} (hT : TabD T) (N : News h₀ L h l) (hs : ∀ x ∈ T, x ∈ l) (hR : (R, o) ∈ l) (ho : NotTab o) : ∀ p ∈ T, p.1 ≠ R := by
  intro p hp e
  have h1 := (N p (hs p hp)).1
  have h2 := (N _ hR).1
  rw [e] at h1
  have h3 : p.2 = o := Option.some.inj (h1.symm.trans h2)
  rcases hT with rfl | ⟨c, oc, rfl, hco, _⟩
  · rw [List.mem_singleton.mp hp] at h3; exact ho.1 _ h3.symm
  · rcases List.mem_cons.mp hp with rfl | hp
    · exact ho.1 _ h3.symm
    · rw [List.mem_singleton.mp hp] at h3; have h4 : oc = o := h3; exact ho.2 _ (h4 ▸ hco)
theorem entry_ne {l : List (Addr × Obj)} {h₀ h : Heap} {L R D : Addr} {o o' : Obj} (N : News h₀ L h l) (hD : (D, o') ∈ l) (hR : (R, o) ∈ l) (ho : o' ≠ o) : @Ne Nat D R := fun e => by
  have h1 := (N _ hD).1
  have h2 := (N _ hR).1
  have e' : D = R := e
  rw [show ((D, o') : Addr × Obj).1 = ((R, o) : Addr × Obj).1 from e'] at h1
  exact ho (Option.some.inj (h1.symm.trans h2))
theorem tabs_off {T1 T2 news l : List (Addr × Obj)} {h₀ h : Heap} {L R : Addr} {o : Obj} (h1 : TabI T1) (h2 : TabD T2) (N : News h₀ L h l) (hs : ∀ x ∈ T1 ++ (T2 ++ news), x ∈ l) (hR : (R, o) ∈ l) (ho : NotTab o) (hn : ∀ p ∈ news, p.1 ≠ R) : OwnOff (T1 ++ (T2 ++ news)) [R] := by
  intro p hp d hd
  rw [List.mem_singleton.mp hd]
  rcases List.mem_append.mp hp with h | h
  · exact tabI_ne h1 N (fun x hx => hs x (List.mem_append_left _ hx)) hR ho p h
  · rcases List.mem_append.mp h with h | h
    · exact tabD_ne h2 N (fun x hx => hs x (List.mem_append_right _ (List.mem_append_left _ hx))) hR ho p h
    · exact hn p h
theorem tabI_mem {T : List (Addr × Obj)} (h : TabI T) : ∃ o, (37, o) ∈ T := by
  rcases h with rfl | ⟨c, oc, rfl, _, hc⟩
  · exact ⟨_, .head _⟩
  · exact ⟨_, .head _⟩
end Mine
end PartS9
section PartD8
open PySem PySem.W PyProof.Rows
namespace Mine
def restAt (p : Int) : Nat → Int
  | 0 => 1
  | i + 1 => Int.fmod (10 * restAt p i) p
def figAt (p : Int) (i : Nat) : Int := Int.fdiv (10 * restAt p i) p
def figsOf (p : Int) (k : Nat) : List Int := (List.range k).map (figAt p)
def restsOf (p : Int) (k : Nat) : List Int := (List.range k).map (restAt p)
def chkR (p : Int) (i : Nat) : Bool := decide ((1 ≤ restAt p i ∧ restAt p i < p) ∧ (0 ≤ figAt p i ∧ figAt p i ≤ 9))
theorem chkR_all : (((List.range 6).all (chkR 7)) && ((List.range 16).all (chkR 17)) && ((List.range 18).all (chkR 19)) && ((List.range 22).all (chkR 23))) = true := by decide +kernel
theorem rest_ok {p : Int} {i : Nat} (hp : okP p) (h : (i : Int) < p - 1) : (1 ≤ restAt p i ∧ restAt p i < p) ∧ (0 ≤ figAt p i ∧ figAt p i ≤ 9) := by
  have hall := chkR_all
  simp only [Bool.and_eq_true] at hall
  obtain ⟨⟨⟨c7, c17⟩, c19⟩, c23⟩ := hall
  rcases hp with rfl | rfl | rfl | rfl
  · exact of_decide_eq_true (List.all_eq_true.mp c7 i (List.mem_range.mpr (by omega)))
  · exact of_decide_eq_true (List.all_eq_true.mp c17 i (List.mem_range.mpr (by omega)))
  · exact of_decide_eq_true (List.all_eq_true.mp c19 i (List.mem_range.mpr (by omega)))
  · exact of_decide_eq_true (List.all_eq_true.mp c23 i (List.mem_range.mpr (by omega)))
theorem rest_last {p : Int} (hp : okP p) : restAt p (p - 1).toNat = 1 := by
  rcases hp with rfl | rfl | rfl | rfl <;> decide +kernel
structure St where
  figs : List Value
  rs : List Value
  nf : Nat
  nr : Nat
  rest : Int
  tr : Tok
  T1 : List (Addr × Obj)
  T2 : List (Addr × Obj)
local macro_rules | `(tactic| walk_at "pyIter ref") => `(tactic| (with_reducible (refine Stop.go ?_)))
local macro_rules | `(tactic| walk_at "call ref") => `(tactic| (with_reducible refine Stop.go ?_))
local macro_rules | `(tactic| size_fits) => `(tactic| assumption)
local macro_rules | `(tactic| k_room) => `(tactic| ktr_room)
local macro_rules | `(tactic| k_units) => `(tactic| ktr_units)
set_option maxRecDepth 100000 in
set_option maxHeartbeats 8000000 in
theorem c_figures {prog : Program} {w : World} {p : Program} {loose : List PySem.Str} {mean : ExcName → Option Value} {mg mb : PySem.Str → Option Value}
   (b : Int) (tb : Tok) (T1 T2 news : List (Addr × Obj)) (hp : okP b) 
   (hT1 : TabI T1) (hT2 : TabD T2) (hoff : OwnOff news [37, 44]) :
  ∀ (dp un : Nat) (gd : Option (List Code)) (cn : PySem.Str) (cs : Scope) (c : Addr) (ccd : Value) (cl : List (PySem.Str × Addr)) (outer : List Env) (A₀ : Around) (base h₀ : Heap) (L : Addr) (m : PySem.Str → Option Value) (s : Shared) (Q E : Value → Shared → Prop),
    Below A₀ base outer h₀ → Fr h₀ L s.heap m → (Mine.hd.heap_39 w.params).In h₀ → News h₀ L s.heap (T1 ++ (T2 ++ news)) → Top p loose mean mg mb h₀ → cs.kind = .function →
    dp + 20 < recursionLimit → un + 100 < cLine →
    (∀ (D R : Addr) rs nr B t1 t2 T1' T2' h' tk, TabIF T1' → TabDF T2' → KBw.bInts B = figsOf b (b - 1).toNat → IntsAre rs (restsOf b (b - 1).toNat) → (37 : Nat) < R → (44 : Nat) < R → AllLt R news → @LT.lt Nat _ R D → AllLt D news → Fr h₀ L h' m →
      News h₀ L h' ((D, { cls := .type "tuple", data := .seq #[.bytes B t1, .ref R, .int 1 t2] }) :: (R, W.listOf rs.toArray nr) :: (T1' ++ (T2' ++ news))) → Q (.ref D) { s with heap := h', toks := tk }) →
      wpAny (model prog w) (ktrTop dp un gd cn cs L c ccd cl outer) (call (.ref 70) [.int b tb]) Q E s := by
  intro dp un gd cn cs c ccd cl outer A₀ base h₀ L m s Q E B F X N Tp hk hdp hun hret
  have kMark : KstMark := kstMark
  have hs : ∀ x ∈ T1 ++ (T2 ++ news), x ∈ T1 ++ (T2 ++ news) := fun _ h => h
  generalize hnw : T1 ++ (T2 ++ news) = nw at N
  replace hs : ∀ x ∈ T1 ++ (T2 ++ news), x ∈ nw := fun x h => hnw ▸ h
  refine wpAny_call ?_
  k_dflt cell_enter
  k_steps
  unfold Stop
  rename_i G _ ltG R _ ltR DD _ ltD _ _ _ _ _ _ _ _ _ _ _ rg lF lN _
  replace lF : Fr _ _ _ (fun y => if y = Str.ofString "figures" then some (.ref G) else if y = Str.ofString "rests" then some (.ref R) else if y = Str.ofString "rest" then some (.int 1 _) else List.lookup y [(Str.ofString "prime", .int b tb)]) := lF
  have hb : 7 ≤ b ∧ b ≤ 23 := by rcases hp with rfl | rfl | rfl | rfl <;> decide
  have hbn : b - 1 = (((b - 1).toNat : Nat) : Int) := by rcases hp with rfl | rfl | rfl | rfl <;> rfl
  rw [hbn] at rg
  with_unfolding_all refine' kst_grow (n := (b - 1).toNat) (σ := St) (fun c => (R, W.listOf c.rs.toArray c.nr) :: (G, W.listOf c.figs.toArray c.nf) :: (c.T1 ++ (c.T2 ++ news))) (fun c => [(Str.ofString "rest", .int c.rest c.tr)]) (fun c => TabI c.T1 ∧ TabD c.T2) [Str.ofString "figure"] (fun i c => c.rest = restAt b i ∧ IntsAre c.figs (figsOf b i) ∧ IntsAre c.rs (restsOf b i) ∧ (0 < i → TabIF c.T1 ∧ TabDF c.T2)) ⟨[], [], 0, 0, 1, _, T1, T2⟩ rfl rg ?sm (rangeSize_nat _ _) lF ?nw ⟨hT1, hT2⟩ ?hk ?hpp ?turn ?done
  case sm => exact small_one (by omega) (by omega) (by omega) (by omega)
  case nw => subst hnw; exact fun p hp => lN p (.tail _ hp)
  case hk =>
    intro q hq
    simp at hq
    subst hq
    with_unfolding_all rfl
  case hpp => exact ⟨rfl, .nil, .nil, fun h => absurd h (Nat.lt_irrefl _)⟩
  case turn =>
    intro I x1 x2 c i t u h tk hi hoffI ltI hf hP F N
    clear lF lN
    dsimp only [kstB] at F
    obtain ⟨hf1, hf2⟩ := hf
    obtain ⟨hP1, hP2, hP3, hP4⟩ := hP
    obtain ⟨ltI1, ltI2, ltI3⟩ := ltI
    have hGR : @Ne Nat G R := Nat.ne_of_lt ltR.1
    have hnG : ∀ p ∈ news, p.1 ≠ G := fun p hp => Nat.ne_of_lt (ltG p (hs p (List.mem_append_right _ (List.mem_append_right _ hp))))
    have hnR : ∀ p ∈ news, p.1 ≠ R := fun p hp => Nat.ne_of_lt (kst_ltOf ltR.2 p (hs p (List.mem_append_right _ (List.mem_append_right _ hp))))
    have offR : OwnOff (c.T1 ++ (c.T2 ++ news)) [R] := tabs_off hf1 hf2 N (fun x hx => .tail _ (.tail _ (.tail _ hx))) (.tail _ (.head _)) (notTab_list _ _) hnR
    have hs1 : ∀ x ∈ c.T1 ++ (c.T2 ++ news), x ∈ c.T1 ++ (c.T2 ++ news) := fun _ h => h
    generalize hnt : c.T1 ++ (c.T2 ++ news) = nt at N offR
    replace hs1 : ∀ x ∈ c.T1 ++ (c.T2 ++ news), x ∈ nt := fun x h => hnt ▸ h
    have hlr : c.rs.toArray.size ≤ sizeLine := by
      have := hP3.length
      rw [restsOf, List.length_map, List.length_range] at this
      rw [List.size_toArray, this]
      exact Nat.le_trans (show i ≤ 22 by omega) (by decide +kernel)
    have hlf : c.figs.toArray.size ≤ sizeLine := by
      have := hP2.length
      rw [figsOf, List.length_map, List.length_range] at this
      rw [List.size_toArray, this]
      exact Nat.le_trans (show i ≤ 22 by omega) (by decide +kernel)
    try k_fold
    k_steps
    unfold Stop
    rename Fr _ _ _ _ => F1
    rename News _ _ _ _ => N1
    have N2 : News _ _ _ (c.T1 ++ (c.T2 ++ ((I, itR x1 x2) :: (R, W.listOf (c.rs.toArray.push (.int c.rest c.tr)) (c.nr + 1)) :: (G, W.listOf c.figs.toArray c.nf) :: news))) := news_sub N1 (by
      intro x hx
      rcases List.mem_append.mp hx with h | h
      · exact .tail _ (.tail _ (.tail _ (hs1 _ (List.mem_append_left _ h))))
      · rcases List.mem_append.mp h with h | h
        · exact .tail _ (.tail _ (.tail _ (hs1 _ (List.mem_append_right _ (List.mem_append_left _ h)))))
        · rcases List.mem_cons.mp h with rfl | h
          · exact .head _
          · rcases List.mem_cons.mp h with rfl | h
            · exact .tail _ (.head _)
            · rcases List.mem_cons.mp h with rfl | h
              · exact .tail _ (.tail _ (.head _))
              · exact .tail _ (.tail _ (.tail _ (hs1 _ (List.mem_append_right _ (List.mem_append_right _ h))))))
    obtain ⟨⟨hr1, hr2⟩, hg1, hg2⟩ := rest_ok hp (show (i : Int) < b - 1 by omega)
    obtain ⟨o37, ho37⟩ := tabI_mem hT1
    obtain ⟨o44, ho44⟩ := tabD_mem hT2
    have h37 : (37 : Nat) < G := ltG _ (hs _ (List.mem_append_left _ ho37))
    have h44 : (44 : Nat) < G := ltG _ (hs _ (List.mem_append_right _ (List.mem_append_left _ ho44)))
    have hoff2 : OwnOff ((I, itR x1 x2) :: (R, W.listOf (c.rs.toArray.push (.int c.rest c.tr)) (c.nr + 1)) :: (G, W.listOf c.figs.toArray c.nf) :: news) [37, 44] := by
      have key : ∀ X : Addr, @LE.le Nat _ G X → ∀ d ∈ [(37 : Addr), 44], X ≠ d := fun X hX d hd => by
        rcases List.mem_cons.mp hd with rfl | hd
        · exact Nat.ne_of_gt (Nat.lt_of_lt_of_le h37 hX)
        · rw [List.mem_singleton.mp hd]; exact Nat.ne_of_gt (Nat.lt_of_lt_of_le h44 hX)
      exact off_cons (key I (Nat.le_of_lt ltI2)) (off_cons (key R (Nat.le_of_lt ltR.1)) (off_cons (key G (Nat.le_refl _)) hoff))
    rw [← hP1] at hr1 hr2
    with_unfolding_all refine' c_dm c.rest b _ _ c.T1 c.T2 ((I, itR x1 x2) :: (R, W.listOf (c.rs.toArray.push (.int c.rest c.tr)) (c.nr + 1)) :: (G, W.listOf c.figs.toArray c.nf) :: news) hp hr1 hr2 hf1 hf2 hoff2 _ _ _ _ _ _ _ _ _ _ _ _ _ _ _ _ _ ?k1 ?k2 ?k3 ?k4 ?k5 ?k6 ?k7 ?k8 ?k9
    case k1 => k_asm
    case k2 => exact F1
    case k3 => k_asm
    case k4 => exact N2
    case k5 => k_asm
    case k6 => exact rfl
    case k7 => ktr_room
    case k8 => ktr_units
    case k9 =>
    intro D T1' T2' t1 t2 h2 tk2 hT1f hT2f _ _ _ F2 N3
    have hT1' := hT1f.tab
    have hT2' := hT2f.tab
    rw [show Int.fdiv (10 * c.rest) b = figAt b i by rw [hP1]; rfl, show Int.fmod (10 * c.rest) b = restAt b (i + 1) by rw [hP1]; rfl] at N3
    clear F1 N1 N2
    replace N3 := news_sub (l' := (D, { cls := .type "tuple", data := .seq #[.int (figAt b i) t1, .int (restAt b (i + 1)) t2] }) :: (I, itR x1 x2) :: (R, W.listOf (c.rs.toArray.push (.int c.rest c.tr)) (c.nr + 1)) :: (G, W.listOf c.figs.toArray c.nf) :: (T1' ++ (T2' ++ news))) N3 (by
      intro x hx
      rcases List.mem_cons.mp hx with rfl | hx
      · exact .head _
      · refine .tail _ ?_
        rcases List.mem_cons.mp hx with rfl | hx
        · exact List.mem_append_right _ (List.mem_append_right _ (.head _))
        · rcases List.mem_cons.mp hx with rfl | hx
          · exact List.mem_append_right _ (List.mem_append_right _ (.tail _ (.head _)))
          · rcases List.mem_cons.mp hx with rfl | hx
            · exact List.mem_append_right _ (List.mem_append_right _ (.tail _ (.tail _ (.head _))))
            · rcases List.mem_append.mp hx with h | h
              · exact List.mem_append_left _ h
              · rcases List.mem_append.mp h with h | h
                · exact List.mem_append_right _ (List.mem_append_left _ h)
                · exact List.mem_append_right _ (List.mem_append_right _ (.tail _ (.tail _ (.tail _ h)))))
    have offG : OwnOff (T1' ++ (T2' ++ news)) [G] := tabs_off hT1' hT2' N3 (fun x hx => .tail _ (.tail _ (.tail _ (.tail _ hx)))) (.tail _ (.tail _ (.tail _ (.head _)))) (notTab_list _ _) hnG
    have offI : ∀ p ∈ T1' ++ (T2' ++ news), p.1 ≠ I := fun p hp => tabs_off hT1' hT2' N3 (fun x hx => .tail _ (.tail _ (.tail _ (.tail _ hx)))) (.tail _ (.head _)) (notTab_it _ _) (fun p hp => hoffI p (.tail _ (.tail _ (List.mem_append_right _ (List.mem_append_right _ hp))))) p hp I (.head _)
    have hDG : @Ne Nat D G := entry_ne N3 (.head _) (.tail _ (.tail _ (.tail _ (.head _)))) (fun e => absurd (Value.type.inj (congrArg Obj.cls e)) (by decide))
    generalize hnt2 : T1' ++ (T2' ++ news) = nt2 at N3 offG offI
    dsimp only
    k_steps
    subst hnt2
    rename Fr _ _ _ _ => F4
    rename News _ _ _ _ => N4
    simp only [List.push_toArray] at N4
    refine grow_end ⟨c.figs ++ [.int (figAt b i) t1], c.rs ++ [.int c.rest c.tr], c.nf + 1, c.nr + 1, restAt b (i + 1), t2, T1', T2'⟩ F4 N4 (fun p hp => .tail _ hp) ?off ⟨hT1', hT2'⟩ (by kst_all) (by kst_same) ?pp
    case off =>
      intro p hp
      rcases List.mem_cons.mp hp with rfl | hp
      · exact Nat.ne_of_lt ltI1
      · rcases List.mem_cons.mp hp with rfl | hp
        · exact Nat.ne_of_lt ltI2
        · exact offI p hp
    case pp =>
      rw [List.length_replicate]
      refine ⟨rfl, ?_, ?_, fun _ => ⟨hT1f, hT2f⟩⟩
      · rw [figsOf, List.range_succ, List.map_append]
        exact hP2.append (.cons _ _ .nil)
      · rw [restsOf, List.range_succ, List.map_append]
        refine hP3.append ?_
        rw [hP1]
        exact .cons _ _ .nil
  case done =>
  intro c u h tk hf hP F N
  clear lF lN
  dsimp only [kstB] at F
  obtain ⟨hf1, hf2⟩ := hf
  obtain ⟨hP1, hP2, hP3, hP4⟩ := hP
  generalize hnt : c.T1 ++ (c.T2 ++ news) = nt at N
  dsimp only
  try k_fold
  k_steps
  have hIn : ∀ n ∈ figsOf b (b - 1).toNat, 0 ≤ n ∧ n < 256 := fun n hn => by
    obtain ⟨i, hi, rfl⟩ := List.mem_map.mp hn
    have := (rest_ok hp (show (i : Int) < b - 1 by have := List.mem_range.mp hi; omega)).2
    omega
  have hlen : (figsOf b (b - 1).toNat).length ≤ 16777216 := by
    rw [figsOf, List.length_map, List.length_range]; omega
  refine KBa.make_K F N rfl ⟨_, (N _ (.tail _ (.head _))).1, rfl, _, rfl⟩ hP2 hIn hlen ?_
  intro h3 t3 k3 F3 N3 _
  clear F N
  k_steps
  rename _ ∧ _ ∧ AllLt _ nt => ltDD
  subst hnt
  have hnews : ∀ {X : Addr}, AllLt X (c.T1 ++ (c.T2 ++ news)) → AllLt X news := fun h => allLt_of fun p hp => kst_ltOf h p (List.mem_append_right _ (List.mem_append_right _ hp))
  have hnR : AllLt R news := allLt_of fun p hp => kst_ltOf ltR.2 p (hs p (List.mem_append_right _ (List.mem_append_right _ hp)))
  rename Fr h₀ L _ _ => kF
  rename News h₀ L _ _ => kN
  rw [hP1, rest_last hp] at kN
  obtain ⟨o37, ho37⟩ := tabI_mem hT1
  obtain ⟨o44, ho44⟩ := tabD_mem hT2
  refine hret _ R c.rs c.nr (byteArr (figsOf b (b - 1).toNat)) _ _ c.T1 c.T2 _ _ (hP4 (by omega)).1 (hP4 (by omega)).2 (KBa.ints_make hIn) hP3 ?_ ?_ hnR ltDD.1 (hnews ltDD.2.2) kF (news_cons kN (news_cons kN (fun p hp => kN p (.tail _ (.tail _ (.tail _ hp)))) (.tail _ (.head _))) (.head _))
  · exact Nat.lt_trans (ltG _ (hs _ (List.mem_append_left _ ho37))) ltR.1
  · exact Nat.lt_trans (ltG _ (hs _ (List.mem_append_right _ (List.mem_append_left _ ho44)))) ltR.1
end Mine
end PartD8
section PartS10
open PySem PySem.W PyProof.Rows PySem.Calls
open PySem.Sem (wp)
namespace Mine
section
variable {prog : Program} {w : World} {A : Around} {s : Shared}
theorem codeS_call_cells {R : Result → Shared → Prop} {a : Addr} {o : Obj} {fd : FuncData} {body : List Stmt} {vals : List Value} {binds : List (Str × Value)}
    (hroom : A.depth < recursionLimit) (ho : s.heap.get? a = some o) (hdata : o.data = .func fd) (hlim : s.heap.NoLimit) (hcd : s.heap.CodeRec fd.code fd.qualname)
    (hbody : fd.body = .stmts body) (hbind : bindArgs fd ⟨vals, []⟩ = pure binds) (hclo : fd.closure = [])
    (hkind : ∀ x ∈ binds, fd.scope.names.lookup x.1 = some .local ∨ (fd.scope.names.lookup x.1 = some .cell ∧ ((cellsFrom (s.heap.objs.size + 1) fd.scope.names []).lookup x.1).isSome = true))
    (h : ∀ s₁, InCallC s (callEnvC fd s.heap.objs.size a).locals (bindL (callEnvC fd s.heap.objs.size a).kindOf binds fun _ => none) (callEnvC fd s.heap.objs.size a).cells
        (bindC (callEnvC fd s.heap.objs.size a).kindOf binds fun _ => none) s₁ →
      wpS (model prog w) (A.deeper (callEnvC fd s.heap.objs.size a)) (execs body (callEnvC fd s.heap.objs.size a)) (fun f s' => R (.ok (.ret (match f with | .ret v => v | _ => .none))) s')
        (fun e s' => wpAny (model prog w) (A.deeper (callEnvC fd s.heap.objs.size a)) (leaving (callEnvC fd s.heap.objs.size a) e) (fun _ s'' => R (.error e) s'') (fun e' s'' => R (.error e') s'') s') s₁)
    (hco : fd.scope.isCoroutine = false := by rfl) (hgen : fd.scope.isGenerator = false := by rfl) (hk : fd.scope.kind = .function := by rfl) :
    codeS (model prog w) A (.call (.ref a) ⟨vals, []⟩) R s := by
  refine codeS_call_function hroom ho hdata hco hgen hbody hcd ?_
  rw [hbind, hclo]
  refine wpAny_pure (wpAny_newFunctionEnv_cells hk hkind fun env he s' x => ?_)
  subst he
  exact ⟨hlim.keeps x.toInCall.keep, codeS_func (h s' x)⟩
theorem callS_cellsN {R : Result → Shared → Prop} {name : Str} {params : Arguments} {body : List Stmt} {scope : Scope}
    {pm cd doc : Value} {a : Addr} {o : Obj} {args : List Value} {binds : List (Str × Value)}
    (hroom : A.depth < recursionLimit) (ho : s.heap.get? a = some o) (hdata : o.data = .func (Calls.docDef name params body scope pm cd doc)) (hlim : s.heap.NoLimit) (hcd : s.heap.CodeRec cd name)
    (hbind : bindArgs (Calls.docDef name params body scope pm cd doc) ⟨args, []⟩ = pure binds)
    (hkind : ∀ x ∈ binds, scope.names.lookup x.1 = some .local ∨ (scope.names.lookup x.1 = some .cell ∧ ((cellsFrom (s.heap.objs.size + 1) scope.names []).lookup x.1).isSome = true))
    (hnd : ((cellsFrom 0 scope.names []).map (·.1)).Nodup)
    (h : ∀ h₁ tk cells, Fr s.heap s.heap.objs.size h₁ (bindL (envOfC name scope s.heap.objs.size a cd).kindOf binds fun _ => none) → News s.heap s.heap.objs.size h₁ cells →
      CellsAre (bindC (envOfC name scope s.heap.objs.size a cd).kindOf binds fun _ => none) (cellsFrom (s.heap.objs.size + 1) scope.names []) cells →
      wpS (model prog w) (A.deeper (envOfC name scope s.heap.objs.size a cd)) (execs body (envOfC name scope s.heap.objs.size a cd))
        (fun f s' => R (.ok (.ret (match f with | .ret v => v | _ => .none))) s') (fun _ _ => False) { s with heap := h₁, toks := tk })
    (hco : scope.isCoroutine = false := by rfl) (hgen : scope.isGenerator = false := by rfl) (hk : scope.kind = .function := by rfl) :
    codeS (model prog w) A (.call (.ref a) ⟨args, []⟩) R s := by
  refine codeS_call_cells (fd := Calls.docDef name params body scope pm cd doc) hroom ho hdata hlim hcd rfl hbind rfl hkind (fun s₁ X => ?_) hco hgen hk
  obtain ⟨h₁, tk, rfl, _⟩ := X.done
  have F : Fr s.heap s.heap.objs.size h₁ (bindL (envOfC name scope s.heap.objs.size a cd).kindOf binds fun _ => none) := ⟨X.toInCall.ns, X.toInCall.keep, X.toInCall.fresh⟩
  have C : Cl s.heap.objs.size (cellsFrom (s.heap.objs.size + 1) scope.names []) h₁ (bindC (envOfC name scope s.heap.objs.size a cd).kindOf binds fun _ => none) := ⟨X.cell, X.apart, X.above⟩
  obtain ⟨cells, N, Y⟩ := Cl.news (h₀ := s.heap) (Nat.le_refl _) fun n c hm => ⟨C.cell n c (lookup_of_mem_nodup (cellsFrom_names scope.names 0 (s.heap.objs.size + 1) [] [] rfl ▸ hnd) hm), C.above n c hm⟩
  exact wpS_mono (h h₁ tk cells F N Y) (fun _ _ x => x) (fun _ _ x => x.elim)
theorem enterS_call {f : Value} {pos : List Value} {kw : List (Str × Value)} {c : ClaimW} {cl : Str → Option Addr} {mean : ExcName → Option Value} {args : List WData} {s₁ : Shared} {M : Model}
    (h : codeS M A (.call f ⟨pos, kw⟩) (GoodWG c cl mean args s₁) s) : wpS M A (PySem.call f pos kw) (fun v s' => GoodWG c cl mean args s₁ (.ok (.ret v)) s') (fun e s' => GoodWG c cl mean args s₁ (.error e) s') s :=
  wpS_call (codeS_mono h fun res s' g => by rcases g.1 with ⟨v, _, _, rfl, _⟩ | ⟨e, _, _, rfl, _⟩ <;> exact g)
/-- kn_post, of one end: asked of a machine whose one tree ends so at once -/
theorem good_post {cw : ClaimW} {cl : Str → Option Addr} {mean : ExcName → Option Value} {args : List WData} {tabs : List (Addr × Addr)} {s₁ s' : Shared} {f : Flow} (prog : Program) (w : World) (hT : TabsAt tabs s₁.heap) (hr : ∀ a x, cw.raises a x = false)
    (h : GoodW cw cl mean args { s₁ with heap := ghostOf s₁.heap tabs } (.ok f) s' ∧ GrownAll tabs s'.heap) : GoodWG cw cl mean args s₁ (.ok f) s' := by
  have k := kn_post (M := ⟨fun _ => pure (.done f), prog, w⟩) (A := callerA) (cd := .builtin "claim.caller" {}) (s := s') hT hr (codeAny_of_tree (wpAny_pure h))
  have k2 := k ⟨.builtin "claim.caller" {}, none, none, [], none⟩ default rfl ⟨rfl, Nat.zero_le _, fun l hl => by cases hl; rfl, fun g hg => by cases hg; rfl, Nat.zero_le _⟩
  rw [wpCode_iff_wp] at k2
  exact k2
theorem knS_post {M : Model} {cd : Code} {s₁ : Shared} {cw : ClaimW} {cl : Str → Option Addr} {mean : ExcName → Option Value} {args : List WData} {tabs : List (Addr × Addr)} (prog : Program) (w : World) (hT : TabsAt tabs s₁.heap) (hr : ∀ a x, cw.raises a x = false)
    (h : codeS M A cd (fun r s' => GoodW cw cl mean args { s₁ with heap := ghostOf s₁.heap tabs } r s' ∧ GrownAll tabs s'.heap) s) : codeS M A cd (GoodWG cw cl mean args s₁) s :=
  codeS_mono h fun r s' g => by
    obtain ⟨⟨v, d, as, e, _⟩ | ⟨_, _, cls, _, _, _, e, _⟩, _⟩ := id g.1
    · subst e
      exact good_post prog w hT hr g
    · rw [hr] at e; cases e
end
end Mine
end PartS10
section PartS11
open PySem PySem.W PyProof.Rows PySem.Calls
open PySem.Sem (wp)
namespace Mine
section
variable {prog : Program} {w : World} {A : Around} {s : Shared} {M : Model}
abbrev noE : Value → Shared → Prop := fun _ _ => False
/-- a piece of code that starts itself again, over the clean stacks -/
theorem codeS_loop {c : Code} {R : Result → Shared → Prop} (hok : okCode c = true) (hq : c.quiet = true) (I : Nat → Shared → Prop)
    (turn : ∀ n s, I n s → wpS M (A.under c) (M.den c)
      (fun fin s' => match fin with
        | .done f => R (.ok f) s'
        | .again c' => (c' = c ∧ ∃ m, m < n ∧ I m s') ∨ (c'.quiet = true ∧ codeS M A c' R s')) noE s) :
    ∀ n s, I n s → codeS M A c R s := fun n => by
  induction n using Nat.strongRecOn with
  | ind n ih =>
    intro s h
    refine codeS_of_tree hok (wpS_mono (turn n s h) (fun fin s' hf => ?_) fun _ _ x => x.elim)
    cases fin with
    | done f => exact hf
    | again c' =>
      rcases hf with ⟨e, m, hm, hI⟩ | hf
      · subst e; exact ⟨hq, ih m hm s' hI⟩
      · exact hf
theorem codeS_forLoop {R : Result → Shared → Prop} {target : Expr} {it : Value} {body : List Stmt} {env : Env} (I : Nat → Shared → Prop)
    (turn : ∀ n s, I n s → wpAny (model prog w) A (pyNext it) (fun r s₁ => match r with
      | none => R (.ok .next) s₁
      | some v => wpAny (model prog w) A (assign target env v) (fun _ s₂ => wpS (model prog w) A (execs body env) (fun f s₃ => match f with
          | .next | .cont => ∃ m, m < n ∧ I m s₃
          | .brk => R (.ok .next) s₃
          | .ret v => R (.ok (.ret v)) s₃) noE s₂) noE s₁) noE s)
    (ht : ∀ v, letOwnedTupleGo target it v = pure () := by intro _; rfl) : ∀ n s, I n s → codeS (model prog w) A (.forLoop target it body [] env) R s := by
  refine codeS_loop rfl rfl I (fun n s hI => ?_)
  show wpS _ _ ((forTurn target it body [] env).onRaise (fun x => do noteFrame x env; theTreesLotGoes x)) _ _ s
  refine wpS_onRaise (wpS_mono (E := noE) ?_ (fun _ _ x => x) fun _ _ x => x.elim)
  simp only [forTurn]
  refine wpS_first (wpAny_standAt (wpS_first (wpAny_onRaise (wpAny_mono (turn n s hI) (fun r s₁ h₁ => ?_) fun _ _ x => x.elim))))
  cases r with
  | none => exact wpS_pure (.inr ⟨rfl, codeS_of (codeAny_block (wpAny_execs_nil h₁))⟩)
  | some v =>
    simp only [ht]
    refine wpS_first (wpAny_pure (wpS_first (wpAny_mono h₁ (fun _ s₂ h₂ => wpS_bind (wpS_mono h₂ (fun f s₃ h₃ => ?_) fun _ _ x => x)) fun _ _ x => x)))
    cases f with
    | next => exact wpS_pure (.inl ⟨rfl, h₃⟩)
    | cont => exact wpS_pure (.inl ⟨rfl, h₃⟩)
    | brk => exact wpS_pure h₃
    | ret v => exact wpS_pure h₃
theorem wpS_For {target iter : Expr} {body : List Stmt} {pos : Pos} {env : Env} {Q : Flow → Shared → Prop}
    (h : wpAny M A (eval iter env) (fun x s₁ => wpAny M A (pyIter x) (fun it s₂ =>
      codeS M A (.forLoop target it body [] env) (fun r s' => match r with | .ok f => Q f s' | .error _ => False) s₂) noE s₁) noE s)
    (hs : ∀ x, foldedSetIterable iter env x = pure x := by intro _; rfl) :
    wpS M A (exec (.For target iter body [] pos) env) Q noE s := by
  rw [exec_For]
  refine wpS_first (wpAny_standAt (wpS_first (wpAny_mono h (fun x s₁ h₁ => ?_) fun _ _ x => x)))
  rw [hs]
  refine wpS_first (wpAny_pure (wpS_first (wpAny_standAt (wpS_first (wpAny_holding (wpAny_mono h₁ (fun it s₂ h₂ => ?_) fun _ _ x => x))))))
  unfold runOwn
  refine wpS_onRaise (wpS_mono (E := noE) (wpS_run (codeS_mono h₂ fun r s' hr => ?_)) (fun _ _ x => x) fun _ _ x => x.elim)
  cases r with
  | ok f => exact hr
  | error e => exact hr
end
section
variable {prog : Program} {w : World} {A : Around} {s : Shared} {h₀ : Heap} {L a : Addr} {cn : Str} {cs : Scope} {ccd : Value} {cl : List (Str × Addr)}
theorem rangeS {x : Str} {px : Pos} {body : List Stmt} {n : Nat} {r : Addr} {a₀ b₀ : Int} {t₀ u₀ v₀ : Tok} {m₀ : Str → Option Value} {news : List (Addr × Obj)} {Q : Flow → Shared → Prop}
    (hh : A.handled = none) (hk : cs.kind = .function) (hx : (envX cn cs L a ccd cl).kindOf x = some .local)
    (hr : IsRange s.heap r a₀ b₀ 1 t₀ u₀ v₀) (hsmall : Builtin.Range.small a₀ b₀ 1 = true) (hn : Builtin.Range.rangeSize a₀ b₀ 1 = (n : Int)) (F : Fr h₀ L s.heap m₀) (N : News h₀ L s.heap news)
    (turn : ∀ (I : Addr) (x1 x2 : Int) (i : Nat) t h tk, i < n → AllLt I news → Fr h₀ L h (fun y => if y = x then some (.int (a₀ + (i : Int)) t) else m₀ y) → News h₀ L h ((I, itR x1 x2) :: news) →
      wpS (model prog w) A (execs body (envX cn cs L a ccd cl)) (fun f s' => match f with
        | .next => ∃ h' tk' u, s' = { s with heap := h', toks := tk' } ∧ Fr h₀ L h' (fun y => if y = x then u else m₀ y) ∧ News h₀ L h' ((I, itR x1 x2) :: news)
        | _ => False) noE { s with heap := h, toks := tk })
    (done : ∀ h tk u, Fr h₀ L h (fun y => if y = x then u else m₀ y) → News h₀ L h news → Q .next { s with heap := h, toks := tk }) :
    wpAny (model prog w) A (pyIter (.ref r)) (fun it s₂ => codeS (model prog w) A (.forLoop (.Name x px) it body [] (envX cn cs L a ccd cl)) (fun r s' => match r with | .ok f => Q f s' | .error _ => False) s₂) noE s := by
  refine wpAny_pyIter_range hr hsmall ?_
  have W := Walks.range (prog := prog) (w := w) hh s.heap.objs.size a₀ 1 n
  have hI : AllLt s.heap.objs.size news := allLt_of fun p hp => Heap.lt_size (N p hp).1
  have hnew := next_is_new F
  have hIL : s.heap.objs.size ≠ L := Nat.ne_of_gt F.ns.lt
  generalize hIe : s.heap.objs.size = I at W hI hnew hIL
  have hoff : ∀ p ∈ news, p.1 ≠ I := fun p hp => Nat.ne_of_lt (kst_ltOf hI p hp)
  refine codeS_forLoop (fun k s' => ∃ h tk i u, s' = { s with heap := h, toks := tk } ∧ k + i = n ∧ Fr h₀ L h (fun y => if y = x then u else m₀ y) ∧ News h₀ L h ((I, itR (a₀ + (i : Nat) * 1) ((n : Int) - (i : Nat))) :: news)) ?_ (fun _ => rfl) n _ ?_
  · rintro k _ ⟨h, tk, i, u, rfl, hki, F₁, N₁⟩
    have hst := (N₁ _ (.head _)).1
    have move : ∀ {h' : Heap}, (∀ b o, b ∉ [I] → h.get? b = some o → h'.get? b = some o) → Fr h₀ L h' (fun y => if y = x then u else m₀ y) ∧ News h₀ L h' news := fun {h'} hk => by
      refine ⟨⟨F₁.ns.at' fun o e => hk L o (fun q => hIL (List.mem_singleton.mp q).symm) e, fun b o e => hk b o (fun q => ?_) (F₁.keep b o e), F₁.above⟩, fun p hp => ⟨hk _ _ (fun q => hoff p hp (List.mem_singleton.mp q)) (N₁ p (.tail _ hp)).1, (N₁ p (.tail _ hp)).2⟩⟩
      rw [List.mem_singleton.mp q, hnew] at e; cases e
    by_cases hi : i < n
    · refine W.item i _ _ _ hi hst fun v h' tk' hv hst' hmv => ?_
      obtain ⟨t, rfl⟩ := hv
      obtain ⟨F₂, N₂⟩ := move hmv
      have N₃ : News h₀ L h' ((I, itR (a₀ + ((i + 1 : Nat) : Int) * 1) ((n : Int) - ((i + 1 : Nat) : Int))) :: news) := fun p hp => by
        rcases List.mem_cons.mp hp with rfl | hp
        · exact ⟨hst', hIL, hnew⟩
        · exact N₂ p hp
      refine wpAny_assign_Name (storeX_L (s := { s with heap := h', toks := tk' }) F₂ N₃ (fun h'' F₄ N₄ => ?_) hk hx)
      have em : (fun y => if y = x then some (Value.int (a₀ + (i : Int) * 1) t) else if y = x then u else m₀ y) = fun y => if y = x then some (Value.int (a₀ + (i : Int)) t) else m₀ y := by
        funext y
        by_cases hy : y = x
        · rw [if_pos hy, if_pos hy, Int.mul_one]
        · rw [if_neg hy, if_neg hy, if_neg hy]
      rw [em] at F₄
      refine wpS_mono (turn I _ _ i t h'' _ hi hI F₄ N₄) (fun f s' hf => ?_) fun _ _ x => x
      cases f with
      | next =>
        obtain ⟨h5, tk5, u5, e5, F5, N5⟩ := hf
        exact ⟨k - 1, by omega, h5, tk5, i + 1, u5, e5, by omega, F5, N5⟩
      | cont => exact hf.elim
      | brk => exact hf.elim
      | ret v => exact hf.elim
    · obtain rfl : i = n := by omega
      refine W.done _ _ _ hst fun h' tk' hk => ?_
      obtain ⟨F₂, N₂⟩ := move hk
      exact done h' tk' u F₂ N₂
  · refine ⟨_, _, 0, m₀ x, rfl, by omega, ?_, fun p hp => ?_⟩
    · have em : (fun y => if y = x then m₀ x else m₀ y) = m₀ := by
        funext y
        by_cases hy : y = x
        · rw [if_pos hy, hy]
        · rw [if_neg hy]
      rw [em]
      exact F.push _
    · rcases List.mem_cons.mp hp with rfl | hp
      · refine ⟨?_, hIL, hnew⟩
        rw [← hIe, hn]
        simpa [itR] using Heap.get?_push_size _ rfl
      · exact ⟨Heap.get?_push_of_some _ (N p hp).1, (N p hp).2⟩
end
end Mine
end PartS11
section PartL0
open PySem PySem.W PyProof.Rows
namespace Mine
abbrev recOf {q : Program} {loose : List PySem.Str} {XP : (PySem.Str → Option Value) → Heap → Prop} {YP : World → Heap → Prop} {r : RowW} {d : DefRec} {kwd : List (PySem.Str × Expr)} {R : Prop} (_ : WalkS q loose XP YP r d kwd → R) : DefRec := d
abbrev lawRec : DefRec := recOf Mine.hd
abbrev lawEnv (L f : Addr) (cd : Value) : Env := envOfC lawRec.name lawRec.scope L f cd
theorem notTab_cell {o : Obj} {v : Option Value} (h : o.data = .cell v) : NotTab o := ⟨fun ps e => (by rw [e] at h; cases h), fun q ⟨vs, t, e, _⟩ => (by rw [h] at e; cases e)⟩
theorem tabs_offs {T1 T2 l : List (Addr × Obj)} {h₀ h : Heap} {L : Addr} {cs : List Addr} (h1 : TabI T1) (h2 : TabD T2) (N : News h₀ L h l) (hs : ∀ x ∈ T1 ++ T2, x ∈ l) (hc : ∀ c ∈ cs, ∃ o, (c, o) ∈ l ∧ NotTab o) : OwnOff (T1 ++ T2) cs := by
  intro p hp d hd
  obtain ⟨o, ho, hn⟩ := hc d hd
  rcases List.mem_append.mp hp with h | h
  · exact tabI_ne h1 N (fun x hx => hs x (List.mem_append_left _ hx)) ho hn p h
  · exact tabD_ne h2 N (fun x hx => hs x (List.mem_append_right _ hx)) ho hn p h
theorem row_at {b : Array UInt8} {ks : List Int} (h : KBw.bInts b = ks) {j : Int} {i : Nat} (hj : j = (i : Int)) (hi : i < b.size) : (((b.getD j.toNat 0).toNat : Nat) : Int) = ks.getD i 0 := by
  subst hj; subst h
  simp [KBw.bInts, Array.getD, hi, List.getD]
theorem figs_at {p : Int} {n i : Nat} (hi : i < n) : (figsOf p n).getD i 0 = figAt p i := by simp [figsOf, List.getD, hi]
theorem rests_at {p : Int} {n i : Nat} (hi : i < n) : (restsOf p n).getD i 0 = restAt p i := by simp [restsOf, List.getD, hi]
/-- what the law asks of the four primes, by counting -/
def chkT (p : Int) (i : Nat) : Bool :=
  let n := (p - 1).toNat
  decide (numF (turnL (figsOf p n) ((restsOf p n).idxOf (1 + (i : Int)))) = (1 + (i : Int)) * numF (figsOf p n)) && (restsOf p n).contains (1 + (i : Int))
theorem chkT_all : (((List.range 6).all (chkT 7)) && ((List.range 16).all (chkT 17)) && ((List.range 18).all (chkT 19)) && ((List.range 22).all (chkT 23))) = true := by decide +kernel
theorem turn_ok {p : Int} {i : Nat} (hp : okP p) (h : i < (p - 1).toNat) : numF (turnL (figsOf p (p - 1).toNat) ((restsOf p (p - 1).toNat).idxOf (1 + (i : Int)))) = (1 + (i : Int)) * numF (figsOf p (p - 1).toNat) ∧ (1 + (i : Int)) ∈ restsOf p (p - 1).toNat := by
  have key : chkT p i = true := by
    have hall := chkT_all
    simp only [Bool.and_eq_true] at hall
    obtain ⟨⟨⟨c7, c17⟩, c19⟩, c23⟩ := hall
    rcases hp with rfl | rfl | rfl | rfl
    · exact List.all_eq_true.mp c7 i (List.mem_range.mpr (by omega))
    · exact List.all_eq_true.mp c17 i (List.mem_range.mpr (by omega))
    · exact List.all_eq_true.mp c19 i (List.mem_range.mpr (by omega))
    · exact List.all_eq_true.mp c23 i (List.mem_range.mpr (by omega))
  simp only [chkT, Bool.and_eq_true, decide_eq_true_eq] at key
  exact ⟨key.1, List.contains_iff_mem.mp key.2⟩
theorem lay_rests {p : Int} (hp : okP p) : PyData.layable0 (.list ((restsOf p (p - 1).toNat).map .int)) = true := by
  rcases hp with rfl | rfl | rfl | rfl <;> decide +kernel
theorem num_ok {p : Int} (hp : okP p) : numF (figsOf p (p - 1).toNat) * p = 10 ^ (p - 1).toNat - 1 := by
  rcases hp with rfl | rfl | rfl | rfl <;> decide +kernel
theorem rests_sorted {p : Int} (hp : okP p) : (restsOf p (p - 1).toNat).Perm (rangeKs 1 (p - 1).toNat) ∧ (rangeKs 1 (p - 1).toNat).Pairwise (· ≤ ·) := by
  rcases hp with rfl | rfl | rfl | rfl
  · exact ⟨List.isPerm_iff.mp (by decide +kernel), by decide +kernel⟩
  · exact ⟨List.isPerm_iff.mp (by decide +kernel), by decide +kernel⟩
  · exact ⟨List.isPerm_iff.mp (by decide +kernel), by decide +kernel⟩
  · exact ⟨List.isPerm_iff.mp (by decide +kernel), by decide +kernel⟩
def chkH (p : Int) (h i : Nat) : Bool := decide (figAt p i + figAt p (i + h) = 9 ∧ restAt p i + restAt p (i + h) = p)
theorem chkH_all : (((List.range 3).all (chkH 7 3)) && ((List.range 8).all (chkH 17 8)) && ((List.range 9).all (chkH 19 9)) && ((List.range 11).all (chkH 23 11))) = true := by decide +kernel
theorem half_ok {p : Int} {h i : Nat} (hp : okP p) (hh : 2 * h = (p - 1).toNat) (hi : i < h) : figAt p i + figAt p (i + h) = 9 ∧ restAt p i + restAt p (i + h) = p := by
  have hall := chkH_all
  simp only [Bool.and_eq_true] at hall
  obtain ⟨⟨⟨c7, c17⟩, c19⟩, c23⟩ := hall
  rcases hp with rfl | rfl | rfl | rfl
  · obtain rfl : h = 3 := by omega
    exact of_decide_eq_true (List.all_eq_true.mp c7 i (List.mem_range.mpr (by omega)))
  · obtain rfl : h = 8 := by omega
    exact of_decide_eq_true (List.all_eq_true.mp c17 i (List.mem_range.mpr (by omega)))
  · obtain rfl : h = 9 := by omega
    exact of_decide_eq_true (List.all_eq_true.mp c19 i (List.mem_range.mpr (by omega)))
  · obtain rfl : h = 11 := by omega
    exact of_decide_eq_true (List.all_eq_true.mp c23 i (List.mem_range.mpr (by omega)))
theorem halves_ok {p : Int} {h : Nat} (hp : okP p) (hh : 2 * h = (p - 1).toNat) : numF ((figsOf p (p - 1).toNat).take h) + numF ((figsOf p (p - 1).toNat).drop h) = 10 ^ h - 1 ∧ (figsOf p (p - 1).toNat).sum = 9 * (h : Int) := by
  rcases hp with rfl | rfl | rfl | rfl
  · obtain rfl : h = 3 := by omega
    decide +kernel
  · obtain rfl : h = 8 := by omega
    decide +kernel
  · obtain rfl : h = 9 := by omega
    decide +kernel
  · obtain rfl : h = 11 := by omega
    decide +kernel
end Mine
end PartL0
section PartS12
open PySem PySem.W PyProof.Rows PySem.Calls
namespace Mine
open LCg LCt
section
variable {prog : Program} {w : World} {A : Around} {E : Value → Shared → Prop} {s : Shared} {h₀ : Heap} {L : Addr} {m : Str → Option Value} {env : Env}
abbrev SameT (h₀ : Heap) (L : Addr) (m : Str → Option Value) (s : Shared) (l : List (Addr × Obj)) (s' : Shared) : Prop := ∃ h' tk', s' = { s with heap := h', toks := tk' } ∧ Fr h₀ L h' m ∧ News h₀ L h' l
/-- a comprehension with a test: what stays is told by p, and what is laid by val -/
theorem compT_filter {n : Nat} {ct elt : Expr} {x : Str} {scope : Scope} {cl : List (Str × Addr)} {S : List (Addr × Obj) → Prop} {P : Nat → Value → Prop} {Fin : List Value → List (Addr × Obj) → Prop} {news : List (Addr × Obj)} (p : Nat → Bool) (val : Nat → Int) (hS : S news)
    (turn : ∀ (i : Nat) (ys : List Value) v I oI C oC D m₂ h tk (E' : Value → Shared → Prop), i < n → P i v → NsObj oC m₂ → m₂ x = some v → Fr h₀ L h m → News h₀ L h ((I, oI) :: (C, oC) :: (D, lst ys) :: news) → Off3 I C D news → ((@Ne Nat I C) ∧ (@Ne Nat I D) ∧ (@Ne Nat C D)) →
      wpAny (model prog w) A (isTrue ct (compEnvC scope cl C env) (eval ct (compEnvC scope cl C env))) (fun ok s' => ok = p i ∧ SameT h₀ L m s ((I, oI) :: (C, oC) :: (D, lst ys) :: news) s') E' { s with heap := h, toks := tk })
    (lay : ∀ (i : Nat) (ys : List Value) v I oI C oC D m₂ h tk (E' : Value → Shared → Prop), i < n → p i = true → P i v → NsObj oC m₂ → m₂ x = some v → Fr h₀ L h m → News h₀ L h ((I, oI) :: (C, oC) :: (D, lst ys) :: news) → Off3 I C D news → ((@Ne Nat I C) ∧ (@Ne Nat I D) ∧ (@Ne Nat C D)) →
      wpAny (model prog w) A (eval elt (compEnvC scope cl C env)) (fun y s' => (∃ t, y = .int (val i) t) ∧ SameT h₀ L m s ((I, oI) :: (C, oC) :: (D, lst ys) :: news) s') E' { s with heap := h, toks := tk })
    (fin : ∀ ys, IntsAre ys (((List.range n).filter p).map val) → Fin ys news) : CompRestT prog w A h₀ L m env ct elt x scope cl s S P Fin n 0 [] news := by
  have key : ∀ k i ys, i + k = n → IntsAre ys (((List.range i).filter p).map val) → CompRestT prog w A h₀ L m env ct elt x scope cl s S P Fin k i ys news := by
    intro k
    induction k with
    | zero =>
      intro i ys e hy
      obtain rfl : i = n := by omega
      exact CompRestT.zero (fin ys hy)
    | succ k ih =>
      intro i ys e hy
      refine CompRestT.succ fun v I oI C oC D m₂ h tk E' hP hN hx F N off ne => ?_
      refine wpAny_mono (turn i ys v I oI C oC D m₂ h tk E' (by omega) hP hN hx F N off ne) (fun ok s' hk => ?_) fun _ _ e => e
      obtain ⟨rfl, h', tk', rfl, F', N'⟩ := hk
      cases hp : p i with
      | true =>
        simp only [if_true]
        refine wpAny_mono (lay i ys v I oI C oC D m₂ h' tk' E' (by omega) hp hP hN hx F' N' off ne) (fun y s' hk => ?_) fun _ _ e => e
        obtain ⟨⟨t, rfl⟩, h2, tk2, rfl, F2, N2⟩ := hk
        refine CompEnd.intro (s₁ := { s with heap := h, toks := tk }) F2 N2 news (fun _ hp => hp) off hS (ih (i + 1) _ (by omega) ?_)
        rw [List.range_succ, List.filter_append, List.map_append]
        refine hy.append ?_
        simp only [List.filter_cons, hp, if_true, List.filter_nil, List.map_cons, List.map_nil]
        exact .cons _ _ .nil
      | false =>
        simp only [Bool.false_eq_true, if_false]
        refine CompEnd.intro (s₁ := { s with heap := h, toks := tk }) F' N' news (fun _ hp => hp) off hS (ih (i + 1) _ (by omega) ?_)
        rw [List.range_succ, List.filter_append, List.map_append]
        simp only [List.filter_cons, hp, Bool.false_eq_true, if_false, List.filter_nil, List.map_nil, List.append_nil]
        exact hy
  exact key n 0 [] (by omega) .nil
/-- a comprehension without a test, whose ledger may grow from turn to turn -/
theorem compU_ind {n : Nat} {elt : Expr} {x : Str} {scope : Scope} {cl : List (Str × Addr)} {S : List (Addr × Obj) → Prop} {P : Nat → Value → Prop} {Fin : List Value → List (Addr × Obj) → Prop} {news : List (Addr × Obj)} (Led : Nat → List Value → List (Addr × Obj) → Prop) (h0 : Led 0 [] news)
    (turn : ∀ (i : Nat) (ys : List Value) (nw : List (Addr × Obj)) v I oI C oC D m₂ h tk (E' : Value → Shared → Prop), i < n → Led i ys nw → P i v → NsObj oC m₂ → m₂ x = some v → Fr h₀ L h m → News h₀ L h ((I, oI) :: (C, oC) :: (D, lst ys) :: nw) → Off3 I C D nw → ((@Ne Nat I C) ∧ (@Ne Nat I D) ∧ (@Ne Nat C D)) →
      wpAny (model prog w) A (eval elt (compEnvC scope cl C env)) (fun y s' => ∃ h' tk' nw', s' = { s with heap := h', toks := tk' } ∧ Fr h₀ L h' m ∧ News h₀ L h' ((I, oI) :: (C, oC) :: (D, lst ys) :: nw') ∧ Off3 I C D nw' ∧ S nw' ∧ Led (i + 1) (ys ++ [y]) nw') E' { s with heap := h, toks := tk })
    (fin : ∀ ys nw, Led n ys nw → Fin ys nw) : CompRest prog w A h₀ L m env elt x scope cl s S P Fin n 0 [] news := by
  have key : ∀ k i ys nw, i + k = n → Led i ys nw → CompRest prog w A h₀ L m env elt x scope cl s S P Fin k i ys nw := by
    intro k
    induction k with
    | zero =>
      intro i ys nw e hy
      obtain rfl : i = n := by omega
      exact CompRest.zero (fin ys nw hy)
    | succ k ih =>
      intro i ys nw e hy
      refine CompRest.succ fun v I oI C oC D m₂ h tk E' hP hN hx F N off ne => ?_
      refine wpAny_mono (turn i ys nw v I oI C oC D m₂ h tk E' (by omega) hy hP hN hx F N off ne) (fun y s' hk => ?_) fun _ _ e => e
      obtain ⟨h', tk', nw', rfl, F', N', off', hS', hL'⟩ := hk
      exact CompEnd.intro (s₁ := { s with heap := h, toks := tk }) F' N' nw' (fun _ hp => hp) off' hS' (ih (i + 1) _ nw' (by omega) hL')
  exact key n 0 [] news (by omega) h0
end
end Mine
end PartS12
section PartS13
open PySem PySem.W PyProof.Rows PySem.Calls
set_option maxRecDepth 100000
namespace Mine
section
variable {prog : Program} {w : World} {A : Around} {E : Value → Shared → Prop} {s : Shared}
/-- what the items of a bytes are, as a list's -/
abbrev ByteAt (b : Array UInt8) (i : Nat) (v : Value) : Prop := ∃ c u, b[i]? = some c ∧ v = .int (c.toNat : Int) u
theorem extend_bytes {R : Result → Shared → Prop} (hh : A.handled = none) (b : Array UInt8) (t : Tok) (S : Addr) (res : Value) (c₀ : Nat) (hS : s.heap.get? S = some { cls := .type "list", data := .seq #[] c₀ }) (hn : b.size ≤ sizeLine)
    (hR : ∀ h' tk acc' c', (∀ a o, a ≠ S → s.heap.get? a = some o → h'.get? a = some o) → h'.get? S = some { cls := .type "list", dict := none, data := .seq acc' c', slots := #[] } →
      ItemsOf (ByteAt b) acc' b.size → R (.ok (.ret res)) { s with heap := h', toks := tk }) :
    wpAny (model prog w) A.in1 (Builtin.List.listExtendWith (.ref S) (.bytes b t) res)
      (fun fin s' => match fin with | .done f => R (.ok f) s' | .again c' => c'.quiet = true ∧ codeAny (model prog w) A c' R s') (fun e s' => R (.error e) s') s := by
  have hlt := Heap.lt_size hS
  have hSf : S ∉ [s.heap.objs.size] := fun hm => Nat.ne_of_lt hlt (List.mem_singleton.mp hm)
  unfold Builtin.List.listExtendWith
  refine wpAny_bind (wpAny_typeOf (T := "bytes") (typeIs_bytes s b t) ?_)
  have h0 : (Builtin.List.listSameRef (.ref S) (.bytes b t) || Value.type "bytes" == Value.type "list" || Value.type "bytes" == Value.type "tuple") = false := by
    show (false || _ || _) = false
    decide
  rw [h0]
  simp only [Bool.false_eq_true, if_false]
  refine wpAny_bind (KBw.pyIter_bytes ?_)
  refine wpAny_bind (wpAny_holding ?_)
  unfold Builtin.List.listLengthHint
  refine wpAny_bind (wpAny_specialOf (T := "bytes") (v := .bytes b t) (typeIs_bytes _ b t) FB.slot_bytes_len.lookup ?_)
  wp_delta
  refine wpAny_bind (wpAny_isInstance (T := "bytes") (v := .bytes b t) (b := true) (typeIs_bytes _ b t) (by rw [isSubtype_type]; kernel_rfl) ?_)
  show wpAny _ _ (typeOf (Value.bytes b t) >>= _) _ _ _
  refine wpAny_bind (wpAny_typeOf (T := "bytes") (typeIs_bytes _ b t) ?_)
  refine wpAny_pure ?_
  rw [if_neg (by decide)]
  have W := (KBw.walks (prog := prog) (w := w) (A := A.in1) hh s.heap.objs.size b t).toS
  refine wpAny_pure ⟨plainId_quiet F.plain_extend_loop _, codeAny_extend_loopS W hn S hSf res b.size 0 _ #[] c₀ rfl (Nat.zero_le _) ⟨_, Heap.get?_push_size _ rfl, rfl, rfl⟩ (Heap.get?_push_of_some _ hS) (ItemsOf.nil _) fun s' acc' c' hm hS' hacc => ?_⟩
  rw [Moved.eq_with hm]
  refine hR s'.heap s'.toks acc' c' (fun a ob ha e => hm.heap a ob (fun hmem => ?_) (Heap.get?_push_of_some _ e)) hS' hacc
  rcases List.mem_cons.mp hmem with e' | hmem
  · exact ha e'
  · exact Nat.ne_of_lt (Heap.lt_size e) (List.mem_singleton.mp hmem)
theorem call_list_bytes {Q : Value → Shared → Prop} (hh : A.handled = none) (b : Array UInt8) (t : Tok) (hn : b.size ≤ sizeLine)
    (hQ : ∀ h' tk acc' c', (∀ a o, s.heap.get? a = some o → h'.get? a = some o) →
      h'.get? s.heap.objs.size = some { cls := .type "list", dict := none, data := .seq acc' c', slots := #[] } → ItemsOf (ByteAt b) acc' b.size → Q (.ref s.heap.objs.size) { s with heap := h', toks := tk }) :
    wpAny (model prog w) A (call (.type "list") [.bytes b t]) Q E s := by
  refine callType_codes (Q₁ := fun obj s₁ => obj = .ref s.heap.objs.size ∧ s₁ = { s with heap := s.heap.push { cls := .type "list", data := .seq #[] } }) F.called_list (F.typeCall_list_1 _) F.entry_list_init
    (code_list_new _ ⟨rfl, rfl⟩) fun obj s₁ h₁ => ?_
  obtain ⟨rfl, rfl⟩ := h₁
  have hS : (s.heap.push { cls := .type "list", data := .seq #[] }).get? s.heap.objs.size = some { cls := .type "list", data := .seq #[] } := Heap.get?_push_size _ rfl
  refine ⟨⟨_, hS, rfl⟩, F.args_list_init_2 _ _, ?_⟩
  show wpAny _ _ (do let old ← Builtin.List.listItems (.ref s.heap.objs.size); Builtin.List.listUpdate (.ref s.heap.objs.size) (fun _ => #[]); letGo old.toList.reverse; Builtin.List.listExtendWith (.ref s.heap.objs.size) (.bytes b t) .none) _ _ _
  refine wpAny_bind ?_
  unfold Builtin.List.listItems
  refine wpAny_bind (wpAny_seqItems hS rfl (wpAny_pure ?_))
  show wpAny _ _ (updateSeq s.heap.objs.size (fun _ => #[]) >>= fun _ => letGo (#[] : Array Value).toList.reverse >>= fun _ => Builtin.List.listExtendWith (.ref s.heap.objs.size) (.bytes b t) .none) _ _ _
  refine wpAny_bind (wpAny_updateSeq hS rfl (wpAny_bind (wpAny_letGo ?_)))
  refine extend_bytes (A := A.in1) hh b t _ .none _ (Heap.get?_update_self (Obj.mapSeq (fun _ => (#[] : Array Value))) hS rfl) hn fun h' tk acc' c' hk hS' hacc => ⟨rfl, hQ h' tk acc' c' (fun a o e => ?_) hS' hacc⟩
  have hne : a ≠ s.heap.objs.size := Nat.ne_of_lt (Heap.lt_size e)
  exact hk a o hne ((Heap.get?_update_other _ _ (Ne.symm hne)).trans (Heap.get?_push_of_some _ e))
variable {h₀ : Heap} {L : Addr} {m : PySem.Str → Option Value} {news : List (Addr × Obj)}
theorem list_bytes_K {Q : Value → Shared → Prop} {b : Array UInt8} {t : Tok} {ks : List Int} (hh : A.handled = none) (F : Fr h₀ L s.heap m) (N : News h₀ L s.heap news) (hb : KBw.bInts b = ks) (hn : b.size ≤ sizeLine)
    (h : ∀ D vs c h' tk, Fr h₀ L h' m → News h₀ L h' ((D, W.listOf vs.toArray c) :: news) → (∀ p ∈ news, p.1 < D) → IntsAre vs ks → Q (.ref D) { s with heap := h', toks := tk }) :
    wpAny (model prog w) A (call (.type "list") [.bytes b t]) Q E s := by
  refine call_list_bytes hh b t hn fun h' tk acc' c' hk hS hacc => ?_
  have e : acc' = acc'.toList.toArray := by simp
  rw [e] at hS
  refine h s.heap.objs.size acc'.toList c' h' tk (F.keeps hk) (fun p hp => ?_) (fun p hp => Heap.lt_size (N p hp).1) ?_
  · rcases List.mem_cons.mp hp with rfl | hp
    · exact ⟨hS, Nat.ne_of_gt F.ns.lt, next_is_new F⟩
    · exact ⟨hk _ _ (N p hp).1, (N p hp).2⟩
  · obtain ⟨hsz, hat⟩ := hacc
    have key : ∀ (l : List Value) (bs : List UInt8), l.length = bs.length → (∀ (j : Nat) (v : Value), l[j]? = some v → ∃ c u, bs[j]? = some c ∧ v = Value.int (c.toNat : Int) u) → IntsAre l (bs.map fun c => (c.toNat : Int)) := by
      intro l
      induction l with
      | nil =>
        intro bs hl _
        cases bs with
        | nil => exact .nil
        | cons _ _ => cases hl
      | cons v r ih =>
        intro bs hl hj
        cases bs with
        | nil => cases hl
        | cons c r' =>
          obtain ⟨c', u, e1, e2⟩ := hj 0 v rfl
          cases e1
          subst e2
          exact .cons _ _ (ih r' (by simpa using hl) fun j v hv => hj (j + 1) v hv)
    have := key acc'.toList b.toList (by simpa using hsz) fun j v hv => by
      obtain ⟨c, u, e1, e2⟩ := hat j v (by simpa using hv)
      exact ⟨c, u, by simpa using e1, e2⟩
    rw [← hb]
    exact this
end
theorem bInts_inj {b c : Array UInt8} {ks : List Int} (hb : KBw.bInts b = ks) (hc : KBw.bInts c = ks) : b = c := by
  have h : b.toList.map (fun x => (x.toNat : Int)) = c.toList.map (fun x => (x.toNat : Int)) := hb.trans hc.symm
  have inj : ∀ l r : List UInt8, l.map (fun x => (x.toNat : Int)) = r.map (fun x => (x.toNat : Int)) → l = r := by
    intro l
    induction l with
    | nil => intro r h; cases r with | nil => rfl | cons _ _ => cases h
    | cons x l ih =>
      intro r h
      cases r with
      | nil => cases h
      | cons y r =>
        simp only [List.map_cons, List.cons.injEq] at h
        have e : x = y := UInt8.toNat_inj.mp (by omega)
        rw [e, ih r h.2]
  exact Array.ext' (inj _ _ h)
end Mine
end PartS13
section PartS14
open PySem PySem.W PyProof.Rows PySem.Calls
namespace Mine
section
variable {prog : Program} {w : World} {A : Around} {s : Shared} {h₀ : Heap} {L : Addr} {env : Env}
/-- a loop over a bytes, whatever its target; the ledger and the frame's map by a relation -/
theorem for_bytes {target iter : Expr} {body : List Stmt} {pos : Pos} {b : Array UInt8} {tb : Tok} {ks : List Int} {m₀ : Str → Option Value} {nw₀ : List (Addr × Obj)} {Q : Flow → Shared → Prop} (J : Nat → (Str → Option Value) → List (Addr × Obj) → Prop)
    (hh : A.handled = none) (hb : KBw.bInts b = ks) (hev : wpAny (model prog w) A (eval iter env) (fun v s₁ => v = .bytes b tb ∧ ∃ tk, s₁ = { s with toks := tk }) noE s) (F : Fr h₀ L s.heap m₀) (N : News h₀ L s.heap nw₀) (h0 : J 0 m₀ nw₀)
    (turn : ∀ (I : Addr) (it : Obj) (i : Nat) (k : Int) t m nw h tk, ks[i]? = some k → J i m nw → (∀ p ∈ nw, p.1 ≠ I) → (∀ p ∈ nw₀, p.1 < I) → NotTab it → Fr h₀ L h m → News h₀ L h ((I, it) :: nw) →
      wpAny (model prog w) A (assign target env (.int k t)) (fun _ s₂ => wpAny (model prog w) A (execs body env) (fun f s₃ => match f with
        | .next => ∃ h' tk' m' nw', s₃ = { s with heap := h', toks := tk' } ∧ Fr h₀ L h' m' ∧ News h₀ L h' ((I, it) :: nw') ∧ (∀ p ∈ nw', p.1 ≠ I) ∧ J (i + 1) m' nw'
        | _ => False) noE s₂) noE { s with heap := h, toks := tk })
    (done : ∀ m nw h tk, J ks.length m nw → Fr h₀ L h m → News h₀ L h nw → Q .next { s with heap := h, toks := tk })
    (hs : ∀ x, foldedSetIterable iter env x = pure x := by intro _; rfl) (ht : ∀ it v, letOwnedTupleGo target it v = pure () := by intro _ _; rfl) :
    wpAny (model prog w) A (exec (.For target iter body [] pos) env) Q noE s := by
  refine wpAny_For (wpAny_mono hev (fun v s₁ hv => ?_) fun _ _ x => x) hs
  obtain ⟨rfl, tk₁, rfl⟩ := hv
  refine KBw.pyIter_bytes ?_
  have W := KBw.walks (prog := prog) (w := w) hh s.heap.objs.size b tb
  have hnew := next_is_new F
  have hIL : L ≠ s.heap.objs.size := Nat.ne_of_lt F.ns.lt
  have hIlt : ∀ p ∈ nw₀, p.1 < s.heap.objs.size := fun p hp => Heap.lt_size (N p hp).1
  have hlen : ks.length = b.size := by rw [← hb, KBw.ints_length]
  refine codeAny_forLoop (fun k s' => ∃ h tk i m nw, s' = { s with heap := h, toks := tk } ∧ k + i = b.size ∧ Fr h₀ L h m ∧ News h₀ L h nw ∧ (∀ p ∈ nw, p.1 ≠ s.heap.objs.size) ∧ KBw.IsBytesIter h s.heap.objs.size b tb i ∧ J i m nw) ?_ b.size
    ⟨_, _, 0, m₀, nw₀, rfl, by omega, F.push _, fun p hp => ⟨Heap.get?_push_of_some _ (N p hp).1, (N p hp).2⟩, fun p hp => Nat.ne_of_lt (hIlt p hp), ⟨_, Heap.get?_push_size _ rfl, rfl, rfl⟩, h0⟩ (ht _)
  rintro k _ ⟨h, tk, i, m, nw, rfl, hki, F₁, N₁, hoff, hst, hJ⟩
  by_cases hi : i < b.size
  · refine wpAny_mono (E := noE) (W.item i _ _ _ hi hst fun v h' tk' hv hst' hk => ?_) (fun _ _ x => x) fun _ _ x => x.elim
    obtain ⟨c, u, hc, rfl⟩ := hv
    have F₂ := LCg.fr_but F₁ hk hIL hnew
    have N₂ := LCg.news_but N₁ hk hoff
    obtain ⟨it, hit, hitc, hitd⟩ := id hst'
    have hnt : NotTab it := ⟨fun ps e => (by rw [e] at hitc; cases hitc), fun q ⟨vs, t, e, e2⟩ => (by rw [hitd] at e; cases e; cases e2)⟩
    have N₃ : News h₀ L h' ((s.heap.objs.size, it) :: nw) := fun p hp => by
      rcases List.mem_cons.mp hp with rfl | hp
      · exact ⟨hit, Ne.symm hIL, hnew⟩
      · exact N₂ p hp
    have hks : ks[i]? = some (c.toNat : Int) := hb ▸ KBw.ints_get hc
    refine wpAny_mono (turn s.heap.objs.size it i _ u m nw h' tk' hks hJ hoff hIlt hnt F₂ N₃) (fun _ s₂ h₂ => wpAny_mono h₂ (fun f s₃ hf => ?_) fun _ _ x => x.elim) fun _ _ x => x.elim
    cases f with
    | next =>
      obtain ⟨h5, tk5, m', nw', rfl, F5, N5, off5, hJ5⟩ := hf
      refine ⟨k - 1, by omega, h5, tk5, i + 1, m', nw', rfl, by omega, F5, fun p hp => N5 p (.tail _ hp), off5, ⟨it, (N5 _ (.head _)).1, hitc, hitd⟩, hJ5⟩
    | cont => exact hf.elim
    | brk => exact hf.elim
    | ret v => exact hf.elim
  · obtain rfl : i = b.size := by omega
    refine wpAny_mono (E := noE) (W.done _ _ _ hst fun h' tk' hk => ?_) (fun _ _ x => x) fun _ _ x => x.elim
    exact wpAny_execs_nil (done m nw h' tk' (hlen ▸ hJ) (LCg.fr_but F₁ hk hIL hnew) (LCg.news_but N₁ hk hoff))
end
end Mine
end PartS14
section PartS15
open PySem PySem.W PyProof.Rows PySem.Calls
namespace Mine
abbrev tupO (a : Int) (t : Tok) (b : Int) (t' : Tok) : Obj := { cls := .type "tuple", data := .seq #[.int a t, .int b t'] }
section
variable {prog : Program} {w : World} {A : Around} {E : Value → Shared → Prop} {s : Shared}
theorem sub_list {value slice : PySem.Expr} {l : Addr} {its : Array Value} {k : Int} {u : Tok} {v : Value} {Q : Value → Shared → Prop} (hl : s.heap.IsList l its) (h0 : 0 ≤ k) (hfit : k < 2 ^ 63) (hx : its[k.toNat]? = some v) (h : Q v s)
    (hs : subscripted slice false (.ref l) (.int k u) = operate [.ref l, .int k u] (getItem (.ref l) (.int k u)) := by with_unfolding_all rfl) :
    wpAny (model prog w) A (subscriptTail value slice (.ref l) (.int k u)) Q E s := tail_any hl.typeIs slot_list_getitem.lookup (wpAny_getItem_list hl h0 hfit hx h) hs
theorem tup_eq {D D' : Addr} {a b c d : Int} {t1 t2 t3 t4 : Tok} {Q : Value → Shared → Prop} (h1 : s.heap.get? D = some (tupO a t1 b t2)) (h2 : s.heap.get? D' = some (tupO c t3 d t4)) (hu : A.units + 64 < cLine) (h : Q (.bool (decide (a = c ∧ b = d))) s) :
    wpAny (model prog w) A (compareOp .Eq (.ref D) (.ref D')) Q E s := by
  refine eq_dataH (reads_tuple_at h1 rfl rfl (.cons (.int _ _) (.cons (.int _ _) .nil))) (reads_tuple_at h2 rfl rfl (.cons (.int _ _) (.cons (.int _ _) .nil))) (by simp [SeqAt.shaped, PyData.canLay0, PyData.canLayAll0, PyData.depth, PyData.depthAll]) (by simp [SeqAt.shaped, PyData.canLay0, PyData.canLayAll0, PyData.depth, PyData.depthAll]) hu ?_
  have e : PyData.eqv (.tuple [.int a, .int b]) (.tuple [.int c, .int d]) = decide (a = c ∧ b = d) := by
    by_cases h1 : a = c <;> by_cases h2 : b = d <;> simp [PyData.eqv, PyData.eqvAll, h1, h2]
  rw [e]
  exact h
end
def backP (p : Int) (k hv : Int) (j : Nat) : Bool := decide (Int.fdiv (10 * (1 + (j : Int))) p = k ∧ Int.fmod (10 * (1 + (j : Int))) p = hv)
def chkB (p : Int) (i : Nat) : Bool :=
  let n := (p - 1).toNat
  decide (((List.range n).filter (backP p (figAt p (n - 1 - i)) (restAt p (n - i)))).map (fun j : Nat => 1 + (j : Int)) = [restAt p (n - 1 - i)])
theorem chkB_all : (((List.range 6).all (chkB 7)) && ((List.range 16).all (chkB 17)) && ((List.range 18).all (chkB 19)) && ((List.range 22).all (chkB 23))) = true := by decide +kernel
theorem back_ok {p : Int} {i : Nat} (hp : okP p) (h : i < (p - 1).toNat) :
    ((List.range (p - 1).toNat).filter (backP p (figAt p ((p - 1).toNat - 1 - i)) (restAt p ((p - 1).toNat - i)))).map (fun j : Nat => 1 + (j : Int)) = [restAt p ((p - 1).toNat - 1 - i)] := by
  have key : chkB p i = true := by
    have hall := chkB_all
    simp only [Bool.and_eq_true] at hall
    obtain ⟨⟨⟨c7, c17⟩, c19⟩, c23⟩ := hall
    rcases hp with rfl | rfl | rfl | rfl
    · exact List.all_eq_true.mp c7 i (List.mem_range.mpr (by omega))
    · exact List.all_eq_true.mp c17 i (List.mem_range.mpr (by omega))
    · exact List.all_eq_true.mp c19 i (List.mem_range.mpr (by omega))
    · exact List.all_eq_true.mp c23 i (List.mem_range.mpr (by omega))
  exact of_decide_eq_true key
theorem figs_rev {p : Int} {n i : Nat} {k : Int} (h : (figsOf p n).reverse[i]? = some k) : i < n ∧ k = figAt p (n - 1 - i) := by
  have hl : (figsOf p n).length = n := by rw [figsOf, List.length_map, List.length_range]
  have hi : i < n := by
    have := (List.getElem?_eq_some_iff.mp h).1
    rwa [List.length_reverse, hl] at this
  refine ⟨hi, ?_⟩
  rw [List.getElem?_reverse (by omega), hl, figsOf, List.getElem?_map, List.getElem?_range (by omega)] at h
  exact (Option.some.inj h).symm
theorem tabI_tab {T : List (Addr × Obj)} (h : TabIF T) : ∃ ps, (37, tabObj ps) ∈ T := by
  obtain ⟨c, oc, rfl, _, hc⟩ := h
  exact ⟨_, .head _⟩
theorem tabD_tab {T : List (Addr × Obj)} (h : TabDF T) : ∃ ps, (44, tabObj ps) ∈ T := by
  obtain ⟨c, oc, rfl, _, hc⟩ := h
  exact ⟨_, .head _⟩
end Mine
end PartS15
section PartL8
open PySem PySem.W PyProof.Rows
namespace Mine
local macro_rules | `(tactic| walk_at "exec Assign cons ListComp") => `(tactic| (with_reducible refine Stop.go ?_))
local macro_rules | `(tactic| walk_at "CompSrcT") => `(tactic| (with_reducible refine Stop.go ?_))
local macro_rules | `(tactic| walk_at "compareOp Eq ref ref") => `(tactic| (with_reducible refine Stop.go ?_))
local macro_rules | `(tactic| walk_at "Exists") => `(tactic| (with_reducible refine Stop.go ?_))
local macro_rules | `(tactic| walk_at "subscriptTail") => `(tactic| (with_reducible refine Stop.go ?_))
def StepsAre (pr : Int) (i : Nat) (ys : List Value) (tups : List (Addr × Obj)) : Prop :=
  ys.length = i ∧ ∀ j < i, ∃ (D : Addr) (t t' : Tok), ys[j]? = some (.ref D) ∧ (D, tupO (Int.fdiv (10 * (1 + (j : Int))) pr) t (Int.fmod (10 * (1 + (j : Int))) pr) t') ∈ tups
set_option maxRecDepth 100000 in
set_option maxHeartbeats 8000000 in
theorem law_g {prog : Program} {w : World} {p : Program} {loose : List PySem.Str} {mean : ExcName → Option Value} {mg mb : PySem.Str → Option Value} {h₀ : Heap} {L f : Addr} {cd : Value} {s : Shared} {Q : Flow → Shared → Prop}
    {pr : Int} {tp tc t5 : Tok} (hp : okP pr) {o1 o2 o3 o4 o5 o6 o7 : Obj} {Ct : Array UInt8} {u : PySem.Str → Option Value} {Ds : Addr} {ys : List Value} {tn : List (Addr × Obj)}
    (hC : KBw.bInts Ct = (figsOf pr (pr - 1).toNat).reverse) (hst : StepsAre pr (pr - 1).toNat ys tn)
    (B : Below callerA h₀ [] h₀) (F : Fr h₀ L s.heap (fun y => if y = Str.ofString "turned" then some (.bytes Ct tc) else u y)) (X : (Mine.hd.heap_39 w.params).In h₀) (T : Top p loose mean mg mb h₀)
    (N : News h₀ L s.heap ((Ds, LCg.lst ys) :: (L + 1 + 1 + 1 + 1 + 1 + 1 + 1, o7) :: (L + 1 + 1 + 1 + 1 + 1 + 1, o6) :: (L + 1 + 1 + 1 + 1 + 1, o5) :: (L + 1 + 1 + 1 + 1, o4) :: (L + 1 + 1 + 1, o3) :: (L + 1 + 1, o2) :: (L + 1, o1) :: tn))
    {v2 v3 v4 v7 : Option Value}
    (d1 : o1.data = .cell (some (.int pr tp))) (d2 : o2.data = .cell v2) (d3 : o3.data = .cell v3) (d4 : o4.data = .cell v4) (d5 : o5.data = .cell (some (.int 1 t5))) (d6 : o6.data = .cell (some (.ref Ds))) (d7 : o7.data = .cell v7)
    (off1 : @Ne Nat (L + 1 + 1 + 1 + 1 + 1 + 1 + 1) Ds ∧ @Ne Nat (L + 1 + 1 + 1 + 1 + 1 + 1) Ds ∧ @Ne Nat (L + 1 + 1 + 1 + 1 + 1) Ds ∧ @Ne Nat (L + 1 + 1 + 1 + 1) Ds ∧ @Ne Nat (L + 1 + 1 + 1) Ds ∧ @Ne Nat (L + 1 + 1) Ds ∧ @Ne Nat (L + 1) Ds)
    (offT : OwnOff tn [L + 1 + 1 + 1 + 1 + 1 + 1 + 1, L + 1 + 1 + 1 + 1 + 1 + 1, L + 1 + 1 + 1 + 1 + 1, L + 1 + 1 + 1 + 1, L + 1 + 1 + 1, L + 1 + 1, L + 1])
    {ps37 ps44 : Array Value} (hm37 : (37, tabObj ps37) ∈ tn) (hm44 : (44, tabObj ps44) ∈ tn)
    (hend : ∀ h' tk, (∀ b o, h₀.get? b = some o → h'.get? b = some o) → GrownAt 37 h' → GrownAt 44 h' → Q (.ret (.bool true)) { s with heap := h', toks := tk }) :
    wpAny (model prog w) (callerA.deeper (lawEnv L f cd)) (exec ((lawRec.body.drop 13).headD (.Pass default)) (lawEnv L f cd)) (fun fl s' => match fl with
      | .next => wpAny (model prog w) (callerA.deeper (lawEnv L f cd)) (execs (lawRec.body.drop 14) (lawEnv L f cd)) Q (fun _ _ => False) s'
      | fl => Q fl s') (fun _ _ => False) s := by
  dsimp only [lawEnv, lawRec, recOf, List.drop, List.headD]
  have kMark : KstMark := kstMark
  have hpr : 7 ≤ pr ∧ pr ≤ 23 := by rcases hp with rfl | rfl | rfl | rfl <;> decide
  refine for_bytes (tb := tc) (ks := (figsOf pr (pr - 1).toNat).reverse) (fun i m nw => ∃ oF oH vF th, nw = (Ds, LCg.lst ys) :: (L + 1 + 1 + 1 + 1 + 1 + 1 + 1, oF) :: (L + 1 + 1 + 1 + 1 + 1 + 1, o6) :: (L + 1 + 1 + 1 + 1 + 1, oH) :: (L + 1 + 1 + 1 + 1, o4) :: (L + 1 + 1 + 1, o3) :: (L + 1 + 1, o2) :: (L + 1, o1) :: tn ∧ oF.data = .cell vF ∧ oH.data = .cell (some (.int (restAt pr ((pr - 1).toNat - i)) th)))
    rfl hC ?ev F N ⟨o7, o5, v7, t5, rfl, d7, ?z0⟩ ?turn ?done
  case ev =>
    k_steps
    unfold Stop
    exact ⟨_, rfl⟩
  case z0 => rw [Nat.sub_zero, rest_last hp]; exact d5
  case turn =>
    intro I it i k t m nw h tk hk hJ hoff hIlt hnt F2 N2
    obtain ⟨oF, oH, vF, th, rfl, dF, dH⟩ := hJ
    obtain ⟨hi, rfl⟩ := figs_rev hk
    have hI7 : @LT.lt Nat _ (L + 1 + 1 + 1 + 1 + 1 + 1 + 1) I := hIlt (_, o7) (.tail _ (.head _))
    have hIDs : @LT.lt Nat _ Ds I := hIlt (_, LCg.lst ys) (.head _)
    (try clear F)
    k_steps
    unfold Stop
    rename Obj.data _ = Data.cell (some (Value.int (figAt _ _) _)) => dF2
    rename Fr _ _ _ _ => F3
    rename News _ _ _ _ => N3
    (try clear F2)
    (try clear N2)
    refine LCt.Assign_ListComp_T F3 (by rfl) (by with_unfolding_all rfl) (by rfl) (by decide) (by rfl) (by decide) (by rfl) (by rfl) (by rfl) ?_
    k_steps
    unfold Stop
    rename IsRange _ _ _ _ _ _ _ _ => rg
    rename Fr _ _ _ _ => F5
    rename News _ _ _ _ => N5
    refine LCt.CompSrcT.range rfl F5 N5 rg (small_one (by omega) (by omega) (by omega) (by omega)) (n := (pr - 1).toNat) (rangeSize_nat _ _) (Nat.le_trans (show (pr - 1).toNat ≤ 22 by omega) (by decide +kernel))
      (fun g => compT_filter (backP pr (figAt pr ((pr - 1).toNat - 1 - i)) (restAt pr ((pr - 1).toNat - i))) (fun j => 1 + (j : Int)) trivial ?turn2 ?lay2 ?fin2)
    case turn2 =>
      intro j ys2 v I2 oI2 C2 oC2 D2 m₂ h3 tk3 E' hj hv hNs hx F6 N6 off3 ne3
      obtain ⟨t3, rfl⟩ := hv
      obtain ⟨Dj, ta, tb, hyj, hmj⟩ := hst.2 j hj
      have hDs := (N6 (Ds, LCg.lst ys) (by simp)).1
      have hDj := (N6 _ (show (Dj, tupO (Int.fdiv (10 * (1 + (j : Int))) pr) ta (Int.fmod (10 * (1 + (j : Int))) pr) tb) ∈ _ from .tail _ (.tail _ (.tail _ (.tail _ (.tail _ (.tail _ (.tail _ (.tail _ (.tail _ (.tail _ (.tail _ (.tail _ (hmj)))))))))))))).1
      (try clear F5)
      (try clear N5)
      try k_fold
      k_steps
      unfold Stop
      refine sub_list (v := .ref Dj) ⟨_, hDs, rfl, _, rfl⟩ (by omega) (by omega) (by rw [show (1 + (j : Int) - 1).toNat = j by omega]; simpa using hyj) ?_
      k_steps
      unfold Stop
      rename News _ _ _ _ => N7
      refine tup_eq (N7 _ (show (Dj, tupO (Int.fdiv (10 * (1 + (j : Int))) pr) ta (Int.fmod (10 * (1 + (j : Int))) pr) tb) ∈ _ from .tail _ (.tail _ (.tail _ (.tail _ (.tail _ (.tail _ (.tail _ (.tail _ (.tail _ (.tail _ (.tail _ (.tail _ (.tail _ (hmj))))))))))))))).1 (N7 _ (.head _)).1 (by ke_room) ?_
      k_steps
      unfold Stop
      rename Fr _ _ _ _ => F7
      exact ⟨_, _, rfl, F7, fun p hp => N7 p (.tail _ hp)⟩
    case lay2 =>
      intro j ys2 v I2 oI2 C2 oC2 D2 m₂ h3 tk3 E' hj hpj hv hNs hx F6 N6 off3 ne3
      obtain ⟨t3, rfl⟩ := hv
      (try clear F5)
      (try clear N5)
      try k_fold
      k_steps
      · unfold Stop; exact ⟨_, rfl⟩
      · unfold Stop
        rename Fr _ _ _ _ => F7
        rename News _ _ _ _ => N7
        exact ⟨_, _, rfl, F7, N7⟩
    case fin2 =>
    intro ys2 hy
    rw [back_ok hp hi] at hy
    obtain ⟨tx, vs', rfl, hvs⟩ := hy.cons_inv
    obtain rfl := hvs.nil_inv
    intro D2 h3 tk3 F6 N6 off2
    simp only [LCg.Off1] at off2
    (try clear F5)
    (try clear N5)
    (try dsimp only)
    k_steps
    unfold Stop
    rename Fr _ _ _ _ => F7
    rename News _ _ _ _ => N7
    rename Obj.data _ = Data.cell (some (Value.int (List.getD _ _ _) _)) => dH2
    have e1 : (pr - 1).toNat - 1 - i = (pr - 1).toNat - (i + 1) := by omega
    rw [e1] at dH2
    refine ⟨_, _, _, _, rfl, F7, fun p hp => N7 p (.tail _ hp), ?off, _, _, _, _, rfl, dF2, dH2⟩
    intro p hp
    simp only [List.mem_cons] at hp
    rcases hp with rfl | rfl | rfl | rfl | rfl | rfl | rfl | rfl | hp
    · exact Nat.ne_of_lt hIDs
    · exact Nat.ne_of_lt hI7
    · exact Nat.ne_of_lt (show @LT.lt Nat _ (L + 1 + 1 + 1 + 1 + 1 + 1) I by omega)
    · exact Nat.ne_of_lt (show @LT.lt Nat _ (L + 1 + 1 + 1 + 1 + 1) I by omega)
    · exact Nat.ne_of_lt (show @LT.lt Nat _ (L + 1 + 1 + 1 + 1) I by omega)
    · exact Nat.ne_of_lt (show @LT.lt Nat _ (L + 1 + 1 + 1) I by omega)
    · exact Nat.ne_of_lt (show @LT.lt Nat _ (L + 1 + 1) I by omega)
    · exact Nat.ne_of_lt (show @LT.lt Nat _ (L + 1) I by omega)
    · exact hoff p (.tail _ (.tail _ (.tail _ (.tail _ (.tail _ (.tail _ (.tail _ (.tail _ hp))))))))
  case done =>
  rintro m nw h tk ⟨oF, oH, vF, th, rfl, dF, dH⟩ F2 N2
  rw [List.length_reverse, figsOf, List.length_map, List.length_range, Nat.sub_self] at dH
  replace dH : oH.data = .cell (some (.int 1 th)) := dH
  (try clear F)
  (try clear N)
  (try dsimp only)
  k_steps
  exact hend _ _ F2.keep (.of N2 (.tail _ (.tail _ (.tail _ (.tail _ (.tail _ (.tail _ (.tail _ (.tail _ (hm37)))))))))) (.of N2 (.tail _ (.tail _ (.tail _ (.tail _ (.tail _ (.tail _ (.tail _ (.tail _ (hm44))))))))))
end Mine
end PartL8
section PartL7
open PySem PySem.W PyProof.Rows
namespace Mine
local macro_rules | `(tactic| walk_at "eval ListComp") => `(tactic| (with_reducible refine Stop.go ?_))
local macro_rules | `(tactic| walk_at "CompSrc") => `(tactic| (with_reducible refine Stop.go ?_))
local macro_rules | `(tactic| walk_at "call ref") => `(tactic| (with_reducible refine Stop.go ?_))
set_option maxRecDepth 100000 in
set_option maxHeartbeats 8000000 in
theorem law_f {prog : Program} {w : World} {p : Program} {loose : List PySem.Str} {mean : ExcName → Option Value} {mg mb : PySem.Str → Option Value} {h₀ : Heap} {L f : Addr} {cd : Value} {s : Shared} {Q : Flow → Shared → Prop}
    {pr : Int} {tp tc : Tok} (hp : okP pr) {o1 o2 o3 o4 o5 o6 o7 : Obj} {Ct : Array UInt8} {u : PySem.Str → Option Value} {T1 T2 : List (Addr × Obj)}
    (hC : KBw.bInts Ct = (figsOf pr (pr - 1).toNat).reverse) (hT1 : TabIF T1) (hT2 : TabDF T2)
    (B : Below callerA h₀ [] h₀) (F : Fr h₀ L s.heap (fun y => if y = Str.ofString "turned" then some (.bytes Ct tc) else u y)) (X : (Mine.hd.heap_39 w.params).In h₀) (T : Top p loose mean mg mb h₀)
    (N : News h₀ L s.heap ((L + 1 + 1 + 1 + 1 + 1 + 1 + 1, o7) :: (L + 1 + 1 + 1 + 1 + 1 + 1, o6) :: (L + 1 + 1 + 1 + 1 + 1, o5) :: (L + 1 + 1 + 1 + 1, o4) :: (L + 1 + 1 + 1, o3) :: (L + 1 + 1, o2) :: (L + 1, o1) :: (T1 ++ T2)))
    (l0 : (44 : Nat) < L ∧ (37 : Nat) < L) {v2 v3 v4 : Option Value}
    (d1 : o1.data = .cell (some (.int pr tp))) (d2 : o2.data = .cell v2) (d3 : o3.data = .cell v3) (d4 : o4.data = .cell v4) (d5 : o5.data = .cell none) (d6 : o6.data = .cell none) (d7 : o7.data = .cell none)
    (hend : ∀ h' tk, (∀ b o, h₀.get? b = some o → h'.get? b = some o) → GrownAt 37 h' → GrownAt 44 h' → Q (.ret (.bool true)) { s with heap := h', toks := tk }) :
    wpAny (model prog w) (callerA.deeper (lawEnv L f cd)) (execs (lawRec.body.drop 12) (lawEnv L f cd)) Q (fun _ _ => False) s := by
  dsimp only [lawEnv, lawRec, recOf, List.drop]
  have kMark : KstMark := kstMark
  have hpr : 7 ≤ pr ∧ pr ≤ 23 := by rcases hp with rfl | rfl | rfl | rfl <;> decide
  have hlf : (figsOf pr (pr - 1).toNat).length = (pr - 1).toNat := by rw [figsOf, List.length_map, List.length_range]
  have offC : OwnOff (T1 ++ T2) [L + 1 + 1 + 1 + 1 + 1 + 1 + 1, L + 1 + 1 + 1 + 1 + 1 + 1, L + 1 + 1 + 1 + 1 + 1, L + 1 + 1 + 1 + 1, L + 1 + 1 + 1, L + 1 + 1, L + 1] := tabs_offs hT1.tab hT2.tab N (fun x hx => .tail _ (.tail _ (.tail _ (.tail _ (.tail _ (.tail _ (.tail _ hx))))))) (by
    intro c hc
    simp only [List.mem_cons, List.not_mem_nil, or_false] at hc
    rcases hc with rfl | rfl | rfl | rfl | rfl | rfl | rfl
    · exact ⟨o7, by simp, notTab_cell d7⟩
    · exact ⟨o6, by simp, notTab_cell d6⟩
    · exact ⟨o5, by simp, notTab_cell d5⟩
    · exact ⟨o4, by simp, notTab_cell d4⟩
    · exact ⟨o3, by simp, notTab_cell d3⟩
    · exact ⟨o2, by simp, notTab_cell d2⟩
    · exact ⟨o1, by simp, notTab_cell d1⟩)
  generalize hnt : T1 ++ T2 = nt at N offC
  try k_fold
  k_steps
  unfold Stop
  refine LCg.ListComp_U F (by rfl) (by decide) (by rfl) (by decide) (by rfl) ?_
  k_steps
  unfold Stop
  (try clear F)
  rename IsRange _ _ _ _ _ _ _ _ => rg
  rename Fr _ _ _ _ => F1
  rename News _ _ _ _ => N1
  obtain ⟨o37, ho37⟩ := tabI_mem hT1.tab
  obtain ⟨o44, ho44⟩ := tabD_mem hT2.tab
  have hm37 : ((37 : Addr), o37) ∈ nt := hnt ▸ List.mem_append_left _ ho37
  have hm44 : ((44 : Addr), o44) ∈ nt := hnt ▸ List.mem_append_right _ ho44
  refine LCg.CompSrc.range rfl F1 N1 rg (small_one (by omega) (by omega) (by omega) (by omega)) (n := (pr - 1).toNat) (rangeSize_nat _ _) (Nat.le_trans (show (pr - 1).toNat ≤ 22 by omega) (by decide +kernel))
    (fun g => compU_ind (fun i ys nw => ∃ tups, nw = (L + 1 + 1 + 1 + 1 + 1 + 1 + 1, o7) :: (L + 1 + 1 + 1 + 1 + 1 + 1, o6) :: (L + 1 + 1 + 1 + 1 + 1, o5) :: (L + 1 + 1 + 1 + 1, o4) :: (L + 1 + 1 + 1, o3) :: (L + 1 + 1, o2) :: (L + 1, o1) :: (tups ++ nt) ∧ StepsAre pr i ys tups ∧ OwnOff tups [37, 44, L + 1 + 1 + 1 + 1 + 1 + 1 + 1, L + 1 + 1 + 1 + 1 + 1 + 1, L + 1 + 1 + 1 + 1 + 1, L + 1 + 1 + 1 + 1, L + 1 + 1 + 1, L + 1 + 1, L + 1]) ⟨[], rfl, ⟨rfl, fun j hj => absurd hj (Nat.not_lt_zero _)⟩, off_nil⟩ ?turn ?fin)
  case turn =>
    intro i ys nw v I oI C oC Dc m₂ h tk E' hi hLed hv hNs hx F2 N2 off3 ne3
    obtain ⟨tups, rfl, hst, hto⟩ := hLed
    obtain ⟨t, rfl⟩ := hv
    have off3m := off3.mem
    have hin : ∀ x ∈ nt, x ∈ (L + 1 + 1 + 1 + 1 + 1 + 1 + 1, o7) :: (L + 1 + 1 + 1 + 1 + 1 + 1, o6) :: (L + 1 + 1 + 1 + 1 + 1, o5) :: (L + 1 + 1 + 1 + 1, o4) :: (L + 1 + 1 + 1, o3) :: (L + 1 + 1, o2) :: (L + 1, o1) :: (tups ++ nt) := fun x hx => .tail _ (.tail _ (.tail _ (.tail _ (.tail _ (.tail _ (.tail _ (List.mem_append_right _ hx)))))))
    generalize htn : tups ++ nt = tn at N2
    clear F1 N1
    try k_fold
    k_steps
    unfold Stop
    subst htn
    have h37n := off3m _ (hin _ hm37)
    have h44n := off3m _ (hin _ hm44)
    have hcellO : ∀ k : Addr, @LT.lt Nat _ L k → ∀ d ∈ [(37 : Addr), 44], k ≠ d := fun k hk d hd => by
      rcases List.mem_cons.mp hd with rfl | hd
      · exact Nat.ne_of_gt (Nat.lt_trans l0.2 hk)
      · rw [List.mem_singleton.mp hd]; exact Nat.ne_of_gt (Nat.lt_trans l0.1 hk)
    have hnO : ∀ k : Addr, (37 : Addr) ≠ k → (44 : Addr) ≠ k → ∀ d ∈ [(37 : Addr), 44], k ≠ d := fun k h1 h2 d hd => by
      rcases List.mem_cons.mp hd with rfl | hd
      · exact Ne.symm h1
      · rw [List.mem_singleton.mp hd]; exact Ne.symm h2
    have hoff : OwnOff ((I, oI) :: (C, oC) :: (Dc, LCg.lst ys) :: (L + 1 + 1 + 1 + 1 + 1 + 1 + 1, o7) :: (L + 1 + 1 + 1 + 1 + 1 + 1, o6) :: (L + 1 + 1 + 1 + 1 + 1, o5) :: (L + 1 + 1 + 1 + 1, o4) :: (L + 1 + 1 + 1, o3) :: (L + 1 + 1, o2) :: (L + 1, o1) :: tups) [37, 44] :=
      off_cons (hnO _ h37n.1 h44n.1) (off_cons (hnO _ h37n.2.1 h44n.2.1) (off_cons (hnO _ h37n.2.2 h44n.2.2) (off_cons (hcellO _ (by show @LT.lt Nat _ L (L+1+1+1+1+1+1+1); omega)) (off_cons (hcellO _ (by show @LT.lt Nat _ L (L+1+1+1+1+1+1); omega)) (off_cons (hcellO _ (by show @LT.lt Nat _ L (L+1+1+1+1+1); omega)) (off_cons (hcellO _ (by show @LT.lt Nat _ L (L+1+1+1+1); omega)) (off_cons (hcellO _ (by show @LT.lt Nat _ L (L+1+1+1); omega)) (off_cons (hcellO _ (by show @LT.lt Nat _ L (L+1+1); omega)) (off_cons (hcellO _ (by show @LT.lt Nat _ L (L+1); omega)) (off_less hto (by intro e he; simp only [List.mem_cons, List.not_mem_nil, or_false] at he ⊢; rcases he with h | h <;> simp [h])))))))))))
    have N3 : News h₀ L h (T1 ++ (T2 ++ ((I, oI) :: (C, oC) :: (Dc, LCg.lst ys) :: (L + 1 + 1 + 1 + 1 + 1 + 1 + 1, o7) :: (L + 1 + 1 + 1 + 1 + 1 + 1, o6) :: (L + 1 + 1 + 1 + 1 + 1, o5) :: (L + 1 + 1 + 1 + 1, o4) :: (L + 1 + 1 + 1, o3) :: (L + 1 + 1, o2) :: (L + 1, o1) :: tups))) := news_sub N2 (by
      intro x hx
      have hT : ∀ y ∈ T1 ++ T2, y ∈ (I, oI) :: (C, oC) :: (Dc, LCg.lst ys) :: (L + 1 + 1 + 1 + 1 + 1 + 1 + 1, o7) :: (L + 1 + 1 + 1 + 1 + 1 + 1, o6) :: (L + 1 + 1 + 1 + 1 + 1, o5) :: (L + 1 + 1 + 1 + 1, o4) :: (L + 1 + 1 + 1, o3) :: (L + 1 + 1, o2) :: (L + 1, o1) :: (tups ++ nt) := fun y hy => .tail _ (.tail _ (.tail _ (hin y (hnt ▸ hy))))
      rcases List.mem_append.mp hx with h | h
      · exact hT x (List.mem_append_left _ h)
      · rcases List.mem_append.mp h with h | h
        · exact hT x (List.mem_append_right _ h)
        · simp only [List.mem_cons, List.mem_append] at h ⊢
          rcases h with h | h | h | h | h | h | h | h | h | h | h <;> simp [h])
    with_unfolding_all refine' c_dm (1 + (i : Int)) pr _ _ T1 T2 ((I, oI) :: (C, oC) :: (Dc, LCg.lst ys) :: (L + 1 + 1 + 1 + 1 + 1 + 1 + 1, o7) :: (L + 1 + 1 + 1 + 1 + 1 + 1, o6) :: (L + 1 + 1 + 1 + 1 + 1, o5) :: (L + 1 + 1 + 1 + 1, o4) :: (L + 1 + 1 + 1, o3) :: (L + 1 + 1, o2) :: (L + 1, o1) :: tups) hp (by omega) (by omega) hT1.tab hT2.tab hoff _ _ _ _ _ _ _ _ _ _ _ _ _ _ _ _ _ ?k1 ?k2 ?k3 ?k4 ?k5 ?k6 ?k7 ?k8 ?k9
    case k1 => k_asm
    case k2 => exact F2
    case k3 => k_asm
    case k4 => exact N3
    case k5 => k_asm
    case k6 => exact rfl
    case k7 => decide +kernel
    case k8 => decide +kernel
    case k9 =>
    intro D9 T1' T2' ta tb h4 tk4 _ _ e1 e2 ltD F4 N4
    rw [e1 hT1, e2 hT2] at N4 ltD
    clear N3 F2 N2
    have hDgt : ∀ x ∈ (I, oI) :: (C, oC) :: (Dc, LCg.lst ys) :: (L + 1 + 1 + 1 + 1 + 1 + 1 + 1, o7) :: (L + 1 + 1 + 1 + 1 + 1 + 1, o6) :: (L + 1 + 1 + 1 + 1 + 1, o5) :: (L + 1 + 1 + 1 + 1, o4) :: (L + 1 + 1 + 1, o3) :: (L + 1 + 1, o2) :: (L + 1, o1) :: (tups ++ nt), x.1 < D9 := fun x hx => ltD x (by
      have : x ∈ ((I, oI) :: (C, oC) :: (Dc, LCg.lst ys) :: (L + 1 + 1 + 1 + 1 + 1 + 1 + 1, o7) :: (L + 1 + 1 + 1 + 1 + 1 + 1, o6) :: (L + 1 + 1 + 1 + 1 + 1, o5) :: (L + 1 + 1 + 1 + 1, o4) :: (L + 1 + 1 + 1, o3) :: (L + 1 + 1, o2) :: (L + 1, o1) :: tups) ++ nt := by simpa using hx
      rcases List.mem_append.mp this with h | h
      · exact List.mem_append_right _ (List.mem_append_right _ h)
      · rw [← hnt] at h
        rcases List.mem_append.mp h with h | h
        · exact List.mem_append_left _ h
        · exact List.mem_append_right _ (List.mem_append_left _ h))
    refine ⟨h4, tk4, (L + 1 + 1 + 1 + 1 + 1 + 1 + 1, o7) :: (L + 1 + 1 + 1 + 1 + 1 + 1, o6) :: (L + 1 + 1 + 1 + 1 + 1, o5) :: (L + 1 + 1 + 1 + 1, o4) :: (L + 1 + 1 + 1, o3) :: (L + 1 + 1, o2) :: (L + 1, o1) :: ((D9, tupO (Int.fdiv (10 * (1 + (i : Int))) pr) ta (Int.fmod (10 * (1 + (i : Int))) pr) tb) :: tups ++ nt), rfl, F4, ?nn, ?oo, trivial, (D9, tupO (Int.fdiv (10 * (1 + (i : Int))) pr) ta (Int.fmod (10 * (1 + (i : Int))) pr) tb) :: tups, rfl, ?ss, ?tt⟩
    case nn =>
      refine news_sub N4 (fun x hx => ?_)
      have : x ∈ (D9, tupO (Int.fdiv (10 * (1 + (i : Int))) pr) ta (Int.fmod (10 * (1 + (i : Int))) pr) tb) :: (((I, oI) :: (C, oC) :: (Dc, LCg.lst ys) :: (L + 1 + 1 + 1 + 1 + 1 + 1 + 1, o7) :: (L + 1 + 1 + 1 + 1 + 1 + 1, o6) :: (L + 1 + 1 + 1 + 1 + 1, o5) :: (L + 1 + 1 + 1 + 1, o4) :: (L + 1 + 1 + 1, o3) :: (L + 1 + 1, o2) :: (L + 1, o1) :: tups) ++ nt) := by
        simp only [List.mem_cons, List.mem_append, List.cons_append] at hx ⊢
        rcases hx with h | h | h | h | h | h | h | h | h | h | h | h | h <;> simp [h]
      rcases List.mem_cons.mp this with rfl | h
      · exact .head _
      · refine .tail _ ?_
        rcases List.mem_append.mp h with h | h
        · exact List.mem_append_right _ (List.mem_append_right _ h)
        · rw [← hnt] at h
          rcases List.mem_append.mp h with h | h
          · exact List.mem_append_left _ h
          · exact List.mem_append_right _ (List.mem_append_left _ h)
    case oo =>
      refine LCg.Off3.of fun x hx => ?_
      have : x = (D9, tupO (Int.fdiv (10 * (1 + (i : Int))) pr) ta (Int.fmod (10 * (1 + (i : Int))) pr) tb) ∨ x ∈ (L + 1 + 1 + 1 + 1 + 1 + 1 + 1, o7) :: (L + 1 + 1 + 1 + 1 + 1 + 1, o6) :: (L + 1 + 1 + 1 + 1 + 1, o5) :: (L + 1 + 1 + 1 + 1, o4) :: (L + 1 + 1 + 1, o3) :: (L + 1 + 1, o2) :: (L + 1, o1) :: (tups ++ nt) := by
        simp only [List.mem_cons, List.mem_append, List.cons_append] at hx ⊢
        rcases hx with h | h | h | h | h | h | h | h | h | h <;> simp [h]
      rcases this with rfl | h
      · exact ⟨Nat.ne_of_gt (hDgt (I, oI) (.head _)), Nat.ne_of_gt (hDgt (C, oC) (.tail _ (.head _))), Nat.ne_of_gt (hDgt (Dc, LCg.lst ys) (.tail _ (.tail _ (.head _))))⟩
      · exact off3m x h
    case ss =>
      refine ⟨by rw [List.length_append, hst.1]; rfl, fun j hj => ?_⟩
      rcases Nat.lt_succ_iff_lt_or_eq.mp hj with hj | rfl
      · obtain ⟨D, t, t', e, hm⟩ := hst.2 j hj
        exact ⟨D, t, t', by rw [List.getElem?_append_left (by rw [hst.1]; exact hj)]; exact e, .tail _ hm⟩
      · exact ⟨D9, ta, tb, by rw [← hst.1]; simp, .head _⟩
    case tt =>
      refine off_cons (fun d hd => Nat.ne_of_gt ?_) hto
      simp only [List.mem_cons, List.not_mem_nil, or_false] at hd
      rcases hd with rfl | rfl | rfl | rfl | rfl | rfl | rfl | rfl | rfl
      · exact hDgt (37, o37) (.tail _ (.tail _ (.tail _ (hin _ hm37))))
      · exact hDgt (44, o44) (.tail _ (.tail _ (.tail _ (hin _ hm44))))
      · exact hDgt (_, o7) (by simp)
      · exact hDgt (_, o6) (by simp)
      · exact hDgt (_, o5) (by simp)
      · exact hDgt (_, o4) (by simp)
      · exact hDgt (_, o3) (by simp)
      · exact hDgt (_, o2) (by simp)
      · exact hDgt (_, o1) (by simp)
  case fin =>
  rintro ys nw ⟨tups, rfl, hst, hto⟩
  intro Ds h tk F2 N2 off1
  clear F1 N1
  have offT : OwnOff (tups ++ nt) [L + 1 + 1 + 1 + 1 + 1 + 1 + 1, L + 1 + 1 + 1 + 1 + 1 + 1, L + 1 + 1 + 1 + 1 + 1, L + 1 + 1 + 1 + 1, L + 1 + 1 + 1, L + 1 + 1, L + 1] := off_app (off_less hto (fun e he => .tail _ (.tail _ he))) offC
  have htin : ∀ x ∈ tups, x ∈ tups ++ nt := fun x hx => List.mem_append_left _ hx
  have hnin : ∀ x ∈ nt, x ∈ tups ++ nt := fun x hx => List.mem_append_right _ hx
  generalize tups ++ nt = tn at N2 off1 offT htin hnin
  simp only [LCg.Off1] at off1
  (try dsimp only)
  k_steps
  rename Fr _ _ _ _ => F5
  rename News _ _ _ _ => N5
  rename Obj.data _ = Data.cell (some (Value.ref Ds)) => d6'
  rename Obj.data _ = Data.cell (some (Value.int 1 _)) => d5'
  obtain ⟨ps37, hp37⟩ := tabI_tab hT1
  obtain ⟨ps44, hp44⟩ := tabD_tab hT2
  obtain ⟨q7, q6, q5, q4, q3, q2, q1, _⟩ := off1
  refine wpAny_mono (law_g (Q := Q) hp hC ⟨hst.1, fun j hj => ?st⟩ B F5 X T (fun p hp => N5 p (.tail _ hp)) d1 d2 d3 d4 d5' d6' d7 ⟨q7, q6, q5, q4, q3, q2, q1⟩ offT (hnin _ (hnt ▸ List.mem_append_left _ hp37)) (hnin _ (hnt ▸ List.mem_append_right _ hp44)) hend) (fun fl s' hf => ?fl) (fun _ _ x => x)
  case st =>
    obtain ⟨D, t, t', e, hm⟩ := hst.2 j hj
    exact ⟨D, t, t', e, htin _ hm⟩
  case fl => cases fl <;> exact hf
end Mine
end PartL7
section PartL6
open PySem PySem.W PyProof.Rows
namespace Mine
local macro_rules | `(tactic| walk_at "compareOp NotEq int int") => `(tactic| (with_reducible refine Stop.go ?_))
local macro_rules | `(tactic| walk_at "call ref") => `(tactic| (with_reducible refine Stop.go ?_))
set_option maxRecDepth 100000 in
set_option maxHeartbeats 8000000 in
theorem law_e {prog : Program} {w : World} {p : Program} {loose : List PySem.Str} {mean : ExcName → Option Value} {mg mb : PySem.Str → Option Value} {h₀ : Heap} {L f : Addr} {cd : Value} {s : Shared} {Q : Flow → Shared → Prop}
    {pr : Int} {tp : Tok} (hp : okP pr) {o1 o2 o3 o4 o5 o6 o7 : Obj} {Bt : Array UInt8} {t1 tm th : Tok} {Hn : Nat} (h2n : 2 * Hn = (pr - 1).toNat) {v1 u1 : Option Value} {R : Addr} {rs : List Value} {nr : Nat} {u : PySem.Str → Option Value} {T1 T2 : List (Addr × Obj)}
    (hB : KBw.bInts Bt = figsOf pr (pr - 1).toNat) (hrs : IntsAre rs (restsOf pr (pr - 1).toNat)) (hT1 : TabIF T1) (hT2 : TabDF T2)
    (B : Below callerA h₀ [] h₀) (F : Fr h₀ L s.heap (fun y => if y = Str.ofString "often" then u1 else if y = Str.ofString "number" then v1 else if y = Str.ofString "many" then some (.int (pr - 1) tm) else u y)) (X : (Mine.hd.heap_39 w.params).In h₀) (T : Top p loose mean mg mb h₀)
    (N : News h₀ L s.heap ((R, W.listOf rs.toArray nr) :: (L + 1 + 1 + 1 + 1 + 1 + 1 + 1, o7) :: (L + 1 + 1 + 1 + 1 + 1 + 1, o6) :: (L + 1 + 1 + 1 + 1 + 1, o5) :: (L + 1 + 1 + 1 + 1, o4) :: (L + 1 + 1 + 1, o3) :: (L + 1 + 1, o2) :: (L + 1, o1) :: (T1 ++ T2)))
    (l0 : (44 : Nat) < L ∧ (37 : Nat) < L) (ltR : @LT.lt Nat _ (L + 1 + 1 + 1 + 1 + 1 + 1 + 1) R)
    (d1 : o1.data = .cell (some (.int pr tp))) (d2 : o2.data = .cell (some (.bytes Bt t1))) (d3 : o3.data = .cell (some (.ref R))) (d4 : o4.data = .cell (some (.int (Hn : Int) th))) (d5 : o5.data = .cell none) (d6 : o6.data = .cell none) (d7 : o7.data = .cell none)
    (hend : ∀ h' tk, (∀ b o, h₀.get? b = some o → h'.get? b = some o) → GrownAt 37 h' → GrownAt 44 h' → Q (.ret (.bool true)) { s with heap := h', toks := tk }) :
    wpS (model prog w) (callerA.deeper (lawEnv L f cd)) (execs (lawRec.body.drop 9) (lawEnv L f cd)) Q (fun _ _ => False) s := by
  dsimp only [lawEnv, lawRec, recOf, List.drop]
  have kMark : KstMark := kstMark
  have hpr : 7 ≤ pr ∧ pr ≤ 23 := by rcases hp with rfl | rfl | rfl | rfl <;> decide
  have hBs : Bt.size = (pr - 1).toNat := by rw [← KBw.ints_length, hB, figsOf, List.length_map, List.length_range]
  have hlf : (figsOf pr (pr - 1).toNat).length = (pr - 1).toNat := by rw [figsOf, List.length_map, List.length_range]
  have offC : OwnOff (T1 ++ T2) [L + 1 + 1 + 1 + 1 + 1 + 1 + 1, L + 1 + 1 + 1 + 1 + 1 + 1, L + 1 + 1 + 1 + 1 + 1, L + 1 + 1 + 1 + 1, L + 1 + 1 + 1, L + 1 + 1, L + 1] := tabs_offs hT1.tab hT2.tab N (fun x hx => .tail _ (.tail _ (.tail _ (.tail _ (.tail _ (.tail _ (.tail _ (.tail _ hx)))))))) (by
    intro c hc
    simp only [List.mem_cons, List.not_mem_nil, or_false] at hc
    rcases hc with rfl | rfl | rfl | rfl | rfl | rfl | rfl
    · exact ⟨o7, by simp, notTab_cell d7⟩
    · exact ⟨o6, by simp, notTab_cell d6⟩
    · exact ⟨o5, by simp, notTab_cell d5⟩
    · exact ⟨o4, by simp, notTab_cell d4⟩
    · exact ⟨o3, by simp, notTab_cell d3⟩
    · exact ⟨o2, by simp, notTab_cell d2⟩
    · exact ⟨o1, by simp, notTab_cell d1⟩)
  generalize hnt : T1 ++ T2 = nt at N offC
  have hbn : pr - 1 = (((pr - 1).toNat : Nat) : Int) := by omega
  replace F : Fr h₀ L s.heap (fun y => if y = Str.ofString "often" then u1 else if y = Str.ofString "number" then v1 else if y = Str.ofString "many" then some (.int (((pr - 1).toNat : Nat) : Int) tm) else u y) := hbn ▸ F
  refine wpS_execs_any ?_
  try k_fold
  k_steps
  unfold Stop
  rename KBw.bInts (KBy.picked Bt none _) = _ => hf
  rw [Nat.min_eq_left (by omega)] at hf
  generalize KBy.picked Bt none _ = f1 at hf
  have hz1 : f1.size ≤ 30 := by rw [← KBw.ints_length, hf, List.length_take]; omega
  with_unfolding_all refine' c_number f1 _ _ hz1 _ _ _ _ _ _ _ _ _ _ _ _ _ _ _ _ _ ?k1 ?k2 ?k3 ?k4 ?k5 ?k6 trivial ?k7 ?k8 ?k9
  case k1 => k_asm
  case k2 => k_asm
  case k3 => k_asm
  case k4 => k_asm
  case k5 => k_asm
  case k6 => exact rfl
  case k7 => decide +kernel
  case k8 => decide +kernel
  case k9 =>
  intro ta h3 tk3 F3 N3
  have hna : num f1 = numF ((figsOf pr (pr - 1).toNat).take Hn) := by unfold num; rw [hf]
  rw [hna]
  (try dsimp only)
  k_steps
  unfold Stop
  rename KBw.bInts (KBy.picked Bt _ none) = _ => hf2
  rw [Nat.min_eq_left (by omega), List.take_of_length_le (by rw [List.length_drop]; omega)] at hf2
  generalize KBy.picked Bt _ none = f2 at hf2
  have hz2 : f2.size ≤ 30 := by rw [← KBw.ints_length, hf2, List.length_drop]; omega
  with_unfolding_all refine' c_number f2 _ _ hz2 _ _ _ _ _ _ _ _ _ _ _ _ _ _ _ _ _ ?k1 ?k2 ?k3 ?k4 ?k5 ?k6 trivial ?k7 ?k8 ?k9
  case k1 => k_asm
  case k2 => k_asm
  case k3 => k_asm
  case k4 => k_asm
  case k5 => k_asm
  case k6 => exact rfl
  case k7 => decide +kernel
  case k8 => decide +kernel
  case k9 =>
  intro tb h4 tk4 F4 N4
  have hnb : num f2 = numF ((figsOf pr (pr - 1).toNat).drop Hn) := by unfold num; rw [hf2]
  rw [hnb]
  (try dsimp only)
  obtain ⟨hh1, hh2⟩ := halves_ok hp h2n
  k_steps
  unfold Stop
  refine PyProof.Rows.ne_int ?_
  rw [hh1, Int.toNat_natCast]
  simp only [bne_self_eq_false]
  k_steps
  unfold Stop
  refine PyProof.Rows.ne_int ?_
  rw [hh2]
  simp only [bne_self_eq_false]
  k_steps
  refine wpS_execs_cons (wpS_Assign_Name (wpS_Call ?_))
  try k_fold
  k_steps
  refine wpS_callWith (P := fun h => Frag.In (Mine.hd.heap_39 w.params) h) (keeps_K (by k_is)) (wpS_of ?_)
  try k_fold
  k_steps
  with_unfolding_all refine' c_swapB Bt (figsOf pr (pr - 1).toNat) _ _ (pr - 1).toNat _ hB hlf (by omega) (by omega) _ _ _ _ _ _ _ _ _ _ _ _ _ _ _ _ _ ?k1 ?k2 ?k3 ?k4 ?k5 ?k6 ?k7 ?k8 ?k9
  case k1 => k_asm
  case k2 => k_asm
  case k3 => k_asm
  case k4 => k_asm
  case k5 => k_asm
  case k6 => exact rfl
  case k7 => decide +kernel
  case k8 => decide +kernel
  case k9 =>
  intro Ct tc h5 tk5 hC F5 N5
  (try dsimp only)
  k_steps
  refine wpS_execs_any ?_
  try k_fold
  k_steps
  rename Fr _ _ _ _ => F6
  rename News _ _ _ _ => N6
  refine list_bytes_K rfl F6 N6 hB (Nat.le_trans (show Bt.size ≤ 22 by omega) (by decide +kernel)) ?_
  intro Dl vl cl7 h7 tk7 F7 N7 lt7 hvl
  clear F6 N6
  k_lt lt7
  (try dsimp only)
  k_steps
  rename IntsAre _ (List.reverse _) => hrv
  rename Fr _ _ _ _ => F6
  rename News _ _ _ _ => N6
  have hIn : ∀ n ∈ (figsOf pr (pr - 1).toNat).reverse, 0 ≤ n ∧ n < 256 := fun n hn => by
    rw [← hB] at hn
    exact KBw.ints_in (List.mem_reverse.mp hn)
  refine KBa.make_K F6 N6 rfl ⟨_, (N6 _ (.head _)).1, rfl, _, rfl⟩ hrv hIn (by rw [List.length_reverse]; omega) ?_
  intro h8 t8 k8 F8 N8 _
  rw [bInts_inj (KBa.ints_make hIn) hC]
  clear F6 N6
  (try dsimp only)
  k_steps
  · exfalso
    rename (_ != _) = true => hh
    simp at hh
  · subst hnt
    exact wpS_of (law_f hp hC hT1 hT2 B F8 X T (fun p hp => N8 p (.tail _ (.tail _ (.tail _ hp)))) l0 d1 d2 d3 d4 d5 d6 d7 hend)
end Mine
end PartL6
section PartL5
open PySem PySem.W PyProof.Rows
namespace Mine
local macro_rules | `(tactic| walk_at "eval ListComp") => `(tactic| (with_reducible refine Stop.go ?_))
local macro_rules | `(tactic| walk_at "CompSrcT") => `(tactic| (with_reducible refine Stop.go ?_))
local macro_rules | `(tactic| walk_at "compareOp NotEq int int") => `(tactic| (with_reducible refine Stop.go ?_))
local macro_rules | `(tactic| walk_at "subscriptTail") => `(tactic| (with_reducible refine Stop.go ?_))
local macro_rules | `(tactic| walk_at "call ref") => `(tactic| (with_reducible refine Stop.go ?_))
set_option maxRecDepth 100000 in
set_option maxHeartbeats 8000000 in
theorem law_d {prog : Program} {w : World} {p : Program} {loose : List PySem.Str} {mean : ExcName → Option Value} {mg mb : PySem.Str → Option Value} {h₀ : Heap} {L f : Addr} {cd : Value} {s : Shared} {Q : Flow → Shared → Prop}
    {pr : Int} {tp : Tok} (hp : okP pr) {o1 o2 o3 o4 o5 o6 o7 : Obj} {Bt : Array UInt8} {t1 tm : Tok} {v1 u1 : Option Value} {R : Addr} {rs : List Value} {nr : Nat} {u : PySem.Str → Option Value} {T1 T2 : List (Addr × Obj)}
    (hB : KBw.bInts Bt = figsOf pr (pr - 1).toNat) (hrs : IntsAre rs (restsOf pr (pr - 1).toNat)) (hT1 : TabIF T1) (hT2 : TabDF T2)
    (B : Below callerA h₀ [] h₀) (F : Fr h₀ L s.heap (fun y => if y = Str.ofString "often" then u1 else if y = Str.ofString "number" then v1 else if y = Str.ofString "many" then some (.int (pr - 1) tm) else u y)) (X : (Mine.hd.heap_39 w.params).In h₀) (T : Top p loose mean mg mb h₀)
    (N : News h₀ L s.heap ((R, W.listOf rs.toArray nr) :: (L + 1 + 1 + 1 + 1 + 1 + 1 + 1, o7) :: (L + 1 + 1 + 1 + 1 + 1 + 1, o6) :: (L + 1 + 1 + 1 + 1 + 1, o5) :: (L + 1 + 1 + 1 + 1, o4) :: (L + 1 + 1 + 1, o3) :: (L + 1 + 1, o2) :: (L + 1, o1) :: (T1 ++ T2)))
    (l0 : (44 : Nat) < L ∧ (37 : Nat) < L) (ltR : @LT.lt Nat _ (L + 1 + 1 + 1 + 1 + 1 + 1 + 1) R)
    (d1 : o1.data = .cell (some (.int pr tp))) (d2 : o2.data = .cell (some (.bytes Bt t1))) (d3 : o3.data = .cell (some (.ref R))) (d4 : o4.data = .cell none) (d5 : o5.data = .cell none) (d6 : o6.data = .cell none) (d7 : o7.data = .cell none)
    (hend : ∀ h' tk, (∀ b o, h₀.get? b = some o → h'.get? b = some o) → GrownAt 37 h' → GrownAt 44 h' → Q (.ret (.bool true)) { s with heap := h', toks := tk }) :
    wpS (model prog w) (callerA.deeper (lawEnv L f cd)) (execs (lawRec.body.drop 7) (lawEnv L f cd)) Q (fun _ _ => False) s := by
  dsimp only [lawEnv, lawRec, recOf, List.drop]
  have kMark : KstMark := kstMark
  have hpr : 7 ≤ pr ∧ pr ≤ 23 := by rcases hp with rfl | rfl | rfl | rfl <;> decide
  have hBs : Bt.size = (pr - 1).toNat := by rw [← KBw.ints_length, hB, figsOf, List.length_map, List.length_range]
  have offC : OwnOff (T1 ++ T2) [L + 1 + 1 + 1 + 1 + 1 + 1 + 1, L + 1 + 1 + 1 + 1 + 1 + 1, L + 1 + 1 + 1 + 1 + 1, L + 1 + 1 + 1 + 1, L + 1 + 1 + 1, L + 1 + 1, L + 1] := tabs_offs hT1.tab hT2.tab N (fun x hx => .tail _ (.tail _ (.tail _ (.tail _ (.tail _ (.tail _ (.tail _ (.tail _ hx)))))))) (by
    intro c hc
    simp only [List.mem_cons, List.not_mem_nil, or_false] at hc
    rcases hc with rfl | rfl | rfl | rfl | rfl | rfl | rfl
    · exact ⟨o7, by simp, notTab_cell d7⟩
    · exact ⟨o6, by simp, notTab_cell d6⟩
    · exact ⟨o5, by simp, notTab_cell d5⟩
    · exact ⟨o4, by simp, notTab_cell d4⟩
    · exact ⟨o3, by simp, notTab_cell d3⟩
    · exact ⟨o2, by simp, notTab_cell d2⟩
    · exact ⟨o1, by simp, notTab_cell d1⟩)
  generalize hnt : T1 ++ T2 = nt at N offC
  refine wpS_execs_any ?_
  try k_fold
  k_steps
  refine wpS_execs_any ?_
  try k_fold
  k_steps
  unfold Stop
  obtain ⟨Hn, hHn, h2n⟩ : ∃ Hn : Nat, Int.fdiv (pr - 1) 2 = (Hn : Int) ∧ 2 * Hn = (pr - 1).toNat := by
    rcases hp with rfl | rfl | rfl | rfl
    · exact ⟨3, rfl, rfl⟩
    · exact ⟨8, rfl, rfl⟩
    · exact ⟨9, rfl, rfl⟩
    · exact ⟨11, rfl, rfl⟩
  rename Obj.data _ = Data.cell (some (Value.int (Int.fdiv _ _) _)) => dH
  rw [hHn] at dH
  rename Fr _ _ _ _ => F1
  rename News _ _ _ _ => N1
  refine LCt.ListComp_T F1 (by rfl) (by decide) (by rfl) (by decide) (by rfl) ?_
  k_steps
  unfold Stop
  rename IsRange _ _ _ _ _ _ _ _ => rg
  rename Fr _ _ _ _ => F1
  rename News _ _ _ _ => N1
  refine LCt.CompSrcT.range rfl F1 N1 rg (small_one (by omega) (by omega) (by omega) (by omega)) (n := Hn) (rangeSize_nat _ _) (Nat.le_trans (show Hn ≤ 22 by omega) (by decide +kernel)) (fun g => compT_filter (fun _ => false) (fun _ => 0) trivial ?turn ?lay ?fin)
  case turn =>
    intro i ys v I oI C oC Dc m₂ h tk E' hi hv hNs hx F2 N2 off3 ne3
    obtain ⟨t, rfl⟩ := hv
    rw [Int.zero_add] at hx
    obtain ⟨h9, hrp⟩ := half_ok hp h2n hi
    have hlr : (restsOf pr (pr - 1).toNat).length = (pr - 1).toNat := by rw [restsOf, List.length_map, List.length_range]
    have hR := (N2 _ (.tail _ (.tail _ (.tail _ (.head _))))).1
    clear F1 N1
    try k_fold
    k_steps
    unfold Stop
    refine sub_bytes (by omega) (by omega) (by omega) ?_
    rw [row_at hB rfl (by omega), figs_at (by omega)]
    k_steps
    unfold Stop
    refine sub_bytes (by omega) (by omega) (by omega) ?_
    rw [row_at hB (show (i : Int) + (Hn : Int) = ((i + Hn : Nat) : Int) by omega) (by omega), figs_at (by omega)]
    k_steps
    unfold Stop
    refine PyProof.Rows.ne_int ?_
    rw [h9]
    simp only [bne_self_eq_false]
    k_steps
    unfold Stop
    refine PyProof.Rows.ne_int ?_
    rw [Int.toNat_natCast, rests_at (by omega), show ((i : Int) + (Hn : Int)).toNat = i + Hn by omega, rests_at (by omega), hrp]
    simp only [bne_self_eq_false]
    k_steps
    all_goals assumption
  case lay =>
    intro i ys v I oI C oC D m₂ h tk E' hi hf
    cases hf
  case fin =>
  intro ys hy
  have hys : ys = [] := by
    rw [show (List.range Hn).filter (fun _ => false) = [] from List.filter_eq_nil_iff.mpr (fun _ _ h => by cases h)] at hy
    exact hy.nil_inv
  subst hys
  intro D h tk F2 N2 off1
  clear F1 N1
  try k_fold
  k_steps
  subst hnt
  rename Fr _ _ _ _ => F9
  rename News _ _ _ _ => N9
  exact law_e hp h2n hB hrs hT1 hT2 B F9 X T (fun p hp => N9 p (.tail _ (.tail _ hp))) l0 ltR d1 d2 d3 dH d5 d6 d7 hend
end Mine
end PartL5
section PartL4
open PySem PySem.W PyProof.Rows
namespace Mine
local macro_rules | `(tactic| walk_at "pyIter ref") => `(tactic| (with_reducible (refine Stop.go ?_)))
local macro_rules | `(tactic| walk_at "call ref") => `(tactic| (with_reducible refine Stop.go ?_))
set_option maxRecDepth 100000 in
set_option maxHeartbeats 8000000 in
theorem law_c {prog : Program} {w : World} {p : Program} {loose : List PySem.Str} {mean : ExcName → Option Value} {mg mb : PySem.Str → Option Value} {h₀ : Heap} {L f : Addr} {cd : Value} {s : Shared} {Q : Flow → Shared → Prop}
    {pr : Int} {tp : Tok} (hp : okP pr) {o1 o2 o3 o4 o5 o6 o7 : Obj} {Bt : Array UInt8} {t1 t3 tm : Tok} {R : Addr} {rs : List Value} {nr : Nat} {u : PySem.Str → Option Value} {T1 T2 : List (Addr × Obj)}
    (hB : KBw.bInts Bt = figsOf pr (pr - 1).toNat) (hrs : IntsAre rs (restsOf pr (pr - 1).toNat)) (hT1 : TabIF T1) (hT2 : TabDF T2)
    (B : Below callerA h₀ [] h₀) (F : Fr h₀ L s.heap (fun y => if y = Str.ofString "number" then some (.int (num Bt) t3) else if y = Str.ofString "many" then some (.int (pr - 1) tm) else u y)) (X : (Mine.hd.heap_39 w.params).In h₀) (T : Top p loose mean mg mb h₀)
    (N : News h₀ L s.heap ((R, W.listOf rs.toArray nr) :: (L + 1 + 1 + 1 + 1 + 1 + 1 + 1, o7) :: (L + 1 + 1 + 1 + 1 + 1 + 1, o6) :: (L + 1 + 1 + 1 + 1 + 1, o5) :: (L + 1 + 1 + 1 + 1, o4) :: (L + 1 + 1 + 1, o3) :: (L + 1 + 1, o2) :: (L + 1, o1) :: (T1 ++ T2)))
    (l0 : (44 : Nat) < L ∧ (37 : Nat) < L) (ltR : @LT.lt Nat _ (L + 1 + 1 + 1 + 1 + 1 + 1 + 1) R)
    (d1 : o1.data = .cell (some (.int pr tp))) (d2 : o2.data = .cell (some (.bytes Bt t1))) (d3 : o3.data = .cell (some (.ref R))) (d4 : o4.data = .cell none) (d5 : o5.data = .cell none) (d6 : o6.data = .cell none) (d7 : o7.data = .cell none)
    (hend : ∀ h' tk, (∀ b o, h₀.get? b = some o → h'.get? b = some o) → GrownAt 37 h' → GrownAt 44 h' → Q (.ret (.bool true)) { s with heap := h', toks := tk }) :
    wpS (model prog w) (callerA.deeper (lawEnv L f cd)) (execs (lawRec.body.drop 6) (lawEnv L f cd)) Q (fun _ _ => False) s := by
  dsimp only [lawEnv, lawRec, recOf, List.drop]
  have kMark : KstMark := kstMark
  have hpr : 7 ≤ pr ∧ pr ≤ 23 := by rcases hp with rfl | rfl | rfl | rfl <;> decide
  have hBs : Bt.size = (pr - 1).toNat := by rw [← KBw.ints_length, hB, figsOf, List.length_map, List.length_range]
  generalize hnt : T1 ++ T2 = nt at N
  refine wpS_execs_cons (wpS_For ?_)
  try k_fold
  k_steps
  unfold Stop
  rename IsRange _ _ _ _ _ _ _ _ => rg
  rename Fr _ _ _ _ => lF
  rename News _ _ _ _ => lN
  with_unfolding_all refine' rangeS (n := (pr - 1).toNat) rfl rfl rfl rg ?sm (rangeSize_nat _ _) lF lN ?turn ?done
  case sm => exact small_one (by omega) (by omega) (by omega) (by omega)
  case turn =>
    intro I x1 x2 i t h tk hi ltI F1 N1
    clear lF lN
    simp only [AllLt] at ltI
    refine wpS_execs_cons (wpS_If (wpS_isTrue_Compare1 (wpS_Call ?_)))
    try k_fold
    k_steps
    refine wpS_callWith (P := fun h => Frag.In (Mine.hd.heap_39 w.params) h) (keeps_K (by k_is)) ?_
    refine wpS_spliced_cons (wpS_Call ?_)
    try k_fold
    k_steps
    refine wpS_callWith (P := fun h => Frag.In (Mine.hd.heap_39 w.params) h) (keeps_K (by k_is)) (wpS_of ?_)
    try k_fold
    k_steps
    obtain ⟨hturn, hmem⟩ := turn_ok hp hi
    have hlt := List.idxOf_lt_length_iff.mpr hmem
    have hlf : (figsOf pr (pr - 1).toNat).length = (restsOf pr (pr - 1).toNat).length := by rw [figsOf, restsOf, List.length_map, List.length_map]
    have hlr : (restsOf pr (pr - 1).toNat).length = (pr - 1).toNat := by rw [restsOf, List.length_map, List.length_range]
    rename News _ _ _ _ => N1b
    refine index_list_ints ⟨_, (N1b _ (.tail _ (.head _))).1, rfl, _, rfl⟩ hrs (lay_rests hp) hmem ?_
    generalize (restsOf pr (pr - 1).toNat).idxOf (1 + (i : Int)) = j at hturn hlt
    k_steps
    with_unfolding_all refine' c_turned Bt (figsOf pr (pr - 1).toNat) _ _ j _ hB (by omega) (by omega) _ _ _ _ _ _ _ _ _ _ _ _ _ _ _ _ _ ?k1 ?k2 ?k3 ?k4 ?k5 ?k6 ?k7 ?k8 ?k9
    case k1 => k_asm
    case k2 => k_asm
    case k3 => k_asm
    case k4 => k_asm
    case k5 => k_asm
    case k6 => exact rfl
    case k7 => decide +kernel
    case k8 => decide +kernel
    case k9 =>
    intro ct tc h2 tk2 hc F2 N2
    clear F1 N1b
    (try dsimp only)
    refine wpS_spliced_nil ⟨X.keeps F2.keep, wpS_of ?_⟩
    have hcz : ct.size ≤ 30 := by
      rw [← KBw.ints_length, hc, turnL, List.length_append, List.length_drop, List.length_take]; omega
    with_unfolding_all refine' c_number ct _ _ hcz _ _ _ _ _ _ _ _ _ _ _ _ _ _ _ _ _ ?k1 ?k2 ?k3 ?k4 ?k5 ?k6 trivial ?k7 ?k8 ?k9
    case k1 => k_asm
    case k2 => k_asm
    case k3 => k_asm
    case k4 => k_asm
    case k5 => k_asm
    case k6 => exact rfl
    case k7 => decide +kernel
    case k8 => decide +kernel
    case k9 =>
    intro tn3 h3 tk3 F3 N3
    clear F2 N2
    (try dsimp only)
    refine wpS_of ?_
    try k_fold
    k_steps
    have hnum : num ct = (1 + (i : Int)) * num Bt := by unfold num; rw [hc, hB]; exact hturn
    rw [hnum]
    generalize (1 + (i : Int)) * num Bt = V
    refine wpS_of ?_
    try k_fold
    k_steps
    refine wpS_of ?_
    try k_fold
    k_steps
    · rename V ≠ V => hne
      exact absurd rfl hne
    · (try dsimp only)
      refine wpS_of (wpAny_execs_nil ?_)
      dsimp only
      refine wpS_of (wpAny_execs_nil ?_)
      exact ⟨_, _, _, rfl, F3, N3⟩
  case done =>
  intro h tk u' F9 N9
  subst hnt
  exact law_d hp hB hrs hT1 hT2 B F9 X T N9 l0 ltR d1 d2 d3 d4 d5 d6 d7 hend
end Mine
end PartL4
section PartL3
open PySem PySem.W PyProof.Rows
namespace Mine
local macro_rules | `(tactic| walk_at "call ref") => `(tactic| (with_reducible refine Stop.go ?_))
set_option maxRecDepth 100000 in
set_option maxHeartbeats 8000000 in
theorem law_b {prog : Program} {w : World} {p : Program} {loose : List PySem.Str} {mean : ExcName → Option Value} {mg mb : PySem.Str → Option Value} {h₀ : Heap} {L f sa : Addr} {cd : Value} {s : Shared} {Q : Flow → Shared → Prop}
    {pr : Int} {tp : Tok} (hp : okP pr) {o1 o2 o3 o4 o5 o6 o7 : Obj}
    (B : Below callerA h₀ [] h₀) (F : Fr h₀ L s.heap (fun y => if y = Str.ofString "script" then some (.ref sa) else none)) (X : (Mine.hd.heap_39 w.params).In h₀) (T : Top p loose mean mg mb h₀)
    (N : News h₀ L s.heap [(L + 1 + 1 + 1 + 1 + 1 + 1 + 1, o7), (L + 1 + 1 + 1 + 1 + 1 + 1, o6), (L + 1 + 1 + 1 + 1 + 1, o5), (L + 1 + 1 + 1 + 1, o4), (L + 1 + 1 + 1, o3), (L + 1 + 1, o2), (L + 1, o1), (44, tabObj #[]), (37, tabObj #[])])
    (l0 : (44 : Nat) < L ∧ (37 : Nat) < L)
    (d1 : o1.data = .cell (some (.int pr tp))) (d2 : o2.data = .cell none) (d3 : o3.data = .cell none) (d4 : o4.data = .cell none) (d5 : o5.data = .cell none) (d6 : o6.data = .cell none) (d7 : o7.data = .cell none)
    (hend : ∀ h' tk, (∀ b o, h₀.get? b = some o → h'.get? b = some o) → GrownAt 37 h' → GrownAt 44 h' → Q (.ret (.bool true)) { s with heap := h', toks := tk }) :
    wpS (model prog w) (callerA.deeper (lawEnv L f cd)) (execs (lawRec.body.drop 1) (lawEnv L f cd)) Q (fun _ _ => False) s := by
  dsimp only [lawEnv, lawRec, recOf, List.drop]
  have kMark : KstMark := kstMark
  refine wpS_execs_any ?_
  try k_fold
  k_steps
  unfold Stop
  have hoff : OwnOff [(L + 1 + 1 + 1 + 1 + 1 + 1 + 1, o7), (L + 1 + 1 + 1 + 1 + 1 + 1, o6), (L + 1 + 1 + 1 + 1 + 1, o5), (L + 1 + 1 + 1 + 1, o4), (L + 1 + 1 + 1, o3), (L + 1 + 1, o2), (L + 1, o1)] [37, 44] := by
    have key : ∀ k : Addr, @LT.lt Nat _ L k → ∀ d ∈ [(37 : Addr), 44], k ≠ d := fun k hk d hd => by
      rcases List.mem_cons.mp hd with rfl | hd
      · exact Nat.ne_of_gt (Nat.lt_trans l0.2 hk)
      · rw [List.mem_singleton.mp hd]; exact Nat.ne_of_gt (Nat.lt_trans l0.1 hk)
    exact off_cons (key _ (by show @LT.lt Nat _ L (L+1+1+1+1+1+1+1); omega)) (off_cons (key _ (by show @LT.lt Nat _ L (L+1+1+1+1+1+1); omega)) (off_cons (key _ (by show @LT.lt Nat _ L (L+1+1+1+1+1); omega)) (off_cons (key _ (by show @LT.lt Nat _ L (L+1+1+1+1); omega)) (off_cons (key _ (by show @LT.lt Nat _ L (L+1+1+1); omega)) (off_cons (key _ (by show @LT.lt Nat _ L (L+1+1); omega)) (off_cons (key _ (by show @LT.lt Nat _ L (L+1); omega)) off_nil))))))
  rename News _ _ _ _ => N1
  replace N1 := news_sub (l' := [(37, tabObj #[])] ++ ([(44, tabObj #[])] ++ [(L + 1 + 1 + 1 + 1 + 1 + 1 + 1, o7), (L + 1 + 1 + 1 + 1 + 1 + 1, o6), (L + 1 + 1 + 1 + 1 + 1, o5), (L + 1 + 1 + 1 + 1, o4), (L + 1 + 1 + 1, o3), (L + 1 + 1, o2), (L + 1, o1)])) N1 (by
    intro x hx
    simp only [List.mem_append, List.mem_cons, List.not_mem_nil, or_false] at hx ⊢
    rcases hx with rfl | rfl | rfl | rfl | rfl | rfl | rfl | rfl | rfl <;> simp)
  with_unfolding_all refine' c_figures pr _ _ _ _ hp (.inl rfl) (.inl rfl) hoff _ _ _ _ _ _ _ _ _ _ _ _ _ _ _ _ _ ?k1 ?k2 ?k3 ?k4 ?k5 ?k6 ?k7 ?k8 ?k9
  case k1 => k_asm
  case k2 => k_asm
  case k3 => k_asm
  case k4 => exact N1
  case k5 => k_asm
  case k6 => exact rfl
  case k7 => decide +kernel
  case k8 => decide +kernel
  case k9 =>
  intro D R rs nr Bt t1 t2 T1 T2 h2 tk2 hT1 hT2 hB hrs hR37 hR44 ltR hRD ltD F2 N2
  simp only [AllLt] at ltR ltD
  have hin : ∀ x ∈ T1 ++ T2, x ∈ T1 ++ (T2 ++ [(L + 1 + 1 + 1 + 1 + 1 + 1 + 1, o7), (L + 1 + 1 + 1 + 1 + 1 + 1, o6), (L + 1 + 1 + 1 + 1 + 1, o5), (L + 1 + 1 + 1 + 1, o4), (L + 1 + 1 + 1, o3), (L + 1 + 1, o2), (L + 1, o1)]) := fun x hx => (List.mem_append.mp hx).elim (fun h => List.mem_append_left _ h) fun h => List.mem_append_right _ (List.mem_append_left _ h)
  have N3 : News h₀ L h2 ((D, { cls := .type "tuple", data := .seq #[.bytes Bt t1, .ref R, .int 1 t2] }) :: (R, W.listOf rs.toArray nr) :: (L + 1 + 1 + 1 + 1 + 1 + 1 + 1, o7) :: (L + 1 + 1 + 1 + 1 + 1 + 1, o6) :: (L + 1 + 1 + 1 + 1 + 1, o5) :: (L + 1 + 1 + 1 + 1, o4) :: (L + 1 + 1 + 1, o3) :: (L + 1 + 1, o2) :: (L + 1, o1) :: (T1 ++ T2)) := news_sub N2 (by
    intro x hx
    rcases List.mem_cons.mp hx with rfl | hx
    · exact .head _
    · rcases List.mem_cons.mp hx with rfl | hx
      · exact .tail _ (.head _)
      · refine .tail _ (.tail _ ?_)
        rcases List.mem_append.mp (show x ∈ [(L + 1 + 1 + 1 + 1 + 1 + 1 + 1, o7), (L + 1 + 1 + 1 + 1 + 1 + 1, o6), (L + 1 + 1 + 1 + 1 + 1, o5), (L + 1 + 1 + 1 + 1, o4), (L + 1 + 1 + 1, o3), (L + 1 + 1, o2), (L + 1, o1)] ++ (T1 ++ T2) from hx) with h | h
        · exact List.mem_append_right _ (List.mem_append_right _ h)
        · exact hin x h)
  clear N2
  (try clear N1)
  have offC : OwnOff (T1 ++ T2) [L + 1 + 1 + 1 + 1 + 1 + 1 + 1, L + 1 + 1 + 1 + 1 + 1 + 1, L + 1 + 1 + 1 + 1 + 1, L + 1 + 1 + 1 + 1, L + 1 + 1 + 1, L + 1 + 1, L + 1] := tabs_offs hT1.tab hT2.tab N3 (fun x hx => .tail _ (.tail _ (.tail _ (.tail _ (.tail _ (.tail _ (.tail _ (.tail _ (.tail _ hx))))))))) (by
    intro c hc
    simp only [List.mem_cons, List.not_mem_nil, or_false] at hc
    rcases hc with rfl | rfl | rfl | rfl | rfl | rfl | rfl
    · exact ⟨o7, by simp, notTab_cell d7⟩
    · exact ⟨o6, by simp, notTab_cell d6⟩
    · exact ⟨o5, by simp, notTab_cell d5⟩
    · exact ⟨o4, by simp, notTab_cell d4⟩
    · exact ⟨o3, by simp, notTab_cell d3⟩
    · exact ⟨o2, by simp, notTab_cell d2⟩
    · exact ⟨o1, by simp, notTab_cell d1⟩)
  generalize hnt : T1 ++ T2 = nt at N3 offC
  (try dsimp only)
  k_steps
  refine wpS_execs_any ?_
  try k_fold
  k_steps
  refine wpS_execs_any ?_
  try k_fold
  k_steps
  rename_i oB dB _ oR dR _ F4 N4
  replace N4 := news_sub N4 (fun x hx => .tail _ hx)
  have hBs : Bt.size = (pr - 1).toNat := by rw [← KBw.ints_length, hB, figsOf, List.length_map, List.length_range]
  have hpr : 7 ≤ pr ∧ pr ≤ 23 := by rcases hp with rfl | rfl | rfl | rfl <;> decide
  refine wpS_execs_any ?_
  try k_fold
  k_steps
  unfold Stop
  with_unfolding_all refine' c_number Bt _ _ (by omega) _ _ _ _ _ _ _ _ _ _ _ _ _ _ _ _ _ ?k1 ?k2 ?k3 ?k4 ?k5 ?k6 trivial ?k7 ?k8 ?k9
  case k1 => k_asm
  case k2 => k_asm
  case k3 => k_asm
  case k4 => k_asm
  case k5 => k_asm
  case k6 => exact rfl
  case k7 => decide +kernel
  case k8 => decide +kernel
  case k9 =>
  intro t3 h3 tk3 F5 N5
  clear F4 N4
  (try dsimp only)
  k_steps
  rename_i _ _ _ F6 N6
  replace N6 := news_sub N6 (fun x hx => .tail _ hx)
  refine wpS_execs_any ?_
  try k_fold
  k_steps
  have h64 : (restsOf pr (pr - 1).toNat).length < 64 := by rw [restsOf, List.length_map, List.length_range]; omega
  rename Fr _ _ _ _ => F6
  rename News _ _ _ _ => N6
  refine kso_sorted F6 N6 ⟨_, (N6 _ (.head _)).1, rfl, _, rfl⟩ hrs h64 ?_
  intro D2 vs2 ns2 c2 h7 F7 N7 l7 hi7 hlen7 hperm7 hpw7 _
  clear F6 N6
  k_lt l7
  (try dsimp only)
  k_steps
  · exfalso
    rename num Bt * pr ≠ _ => hne
    exact hne (by unfold num; rw [hB]; exact num_ok hp)
  · subst hnt
    rename Fr _ _ _ _ => F9
    rename News _ _ _ _ => N9
    exact law_c hp hB hrs hT1 hT2 B F9 X T (fun p hp => N9 p (.tail _ (.tail _ hp))) l0 ltR.1 d1 dB dR d4 d5 d6 d7 hend
  · exfalso
    rename ns2 ≠ _ => hne
    exact hne (ksm_same (hperm7.trans (rests_sorted hp).1) hpw7 (rests_sorted hp).2)
end Mine
end PartL3
section PartL2
open PySem PySem.W PyProof.Rows
namespace Mine
local macro_rules | `(tactic| walk_at "call ref") => `(tactic| (with_reducible refine Stop.go ?_))
set_option maxRecDepth 100000 in
set_option maxHeartbeats 8000000 in
theorem law_a {prog : Program} {w : World} {p : Program} {loose : List PySem.Str} {mean : ExcName → Option Value} {mg mb : PySem.Str → Option Value} {h₀ : Heap} {L f sa : Addr} {cd : Value} {s : Shared} {Q : Flow → Shared → Prop}
    {ns : List Int} {svs : List Value} {o1 o2 o3 o4 o5 o6 o7 : Obj} (hI : IntsAre svs ns) (hl : h₀.IsList sa svs.toArray)
    (B : Below callerA h₀ [] h₀) (F : Fr h₀ L s.heap (fun y => if y = Str.ofString "script" then some (.ref sa) else none)) (X : (Mine.hd.heap_39 w.params).In h₀) (T : Top p loose mean mg mb h₀)
    (N : News h₀ L s.heap [(L + 1 + 1 + 1 + 1 + 1 + 1 + 1, o7), (L + 1 + 1 + 1 + 1 + 1 + 1, o6), (L + 1 + 1 + 1 + 1 + 1, o5), (L + 1 + 1 + 1 + 1, o4), (L + 1 + 1 + 1, o3), (L + 1 + 1, o2), (L + 1, o1), (44, tabObj #[]), (37, tabObj #[])])
    (l0 : (44 : Nat) < L ∧ (37 : Nat) < L)
    (d1 : o1.data = .cell none) (d2 : o2.data = .cell none) (d3 : o3.data = .cell none) (d4 : o4.data = .cell none) (d5 : o5.data = .cell none) (d6 : o6.data = .cell none) (d7 : o7.data = .cell none)
    (hend : ∀ h' tk, (∀ b o, h₀.get? b = some o → h'.get? b = some o) → GrownAt 37 h' → GrownAt 44 h' → Q (.ret (.bool true)) { s with heap := h', toks := tk }) :
    wpS (model prog w) (callerA.deeper (lawEnv L f cd)) (execs lawRec.body (lawEnv L f cd)) Q (fun _ _ => False) s := by
  dsimp only [lawEnv, lawRec, recOf]
  have kMark : KstMark := kstMark
  refine wpS_execs_any ?_
  try k_fold
  k_steps
  · rename Fr _ _ _ _ => F9
    rename News _ _ _ _ => N9
    rename Obj.data _ = Data.cell (some (Value.int _ _)) => d9
    exact law_b (.inl rfl) B F9 X T (fun p hp => N9 p (.tail _ hp)) l0 d9 d2 d3 d4 d5 d6 d7 hend
  · rename Fr _ _ _ _ => F9
    rename News _ _ _ _ => N9
    rename Obj.data _ = Data.cell (some (Value.int _ _)) => d9
    exact law_b (.inr (.inl rfl)) B F9 X T (fun p hp => N9 p (.tail _ hp)) l0 d9 d2 d3 d4 d5 d6 d7 hend
  · rename Fr _ _ _ _ => F9
    rename News _ _ _ _ => N9
    rename Obj.data _ = Data.cell (some (Value.int _ _)) => d9
    exact law_b (.inr (.inr (.inl rfl))) B F9 X T (fun p hp => N9 p (.tail _ hp)) l0 d9 d2 d3 d4 d5 d6 d7 hend
  · rename Fr _ _ _ _ => F9
    rename News _ _ _ _ => N9
    rename Obj.data _ = Data.cell (some (Value.int _ _)) => d9
    exact law_b (.inr (.inr (.inr rfl))) B F9 X T (fun p hp => N9 p (.tail _ hp)) l0 d9 d2 d3 d4 d5 d6 d7 hend
end Mine
end PartL2
section PartL1
open PySem PySem.W PyProof.Rows
namespace Mine
set_option maxRecDepth 100000 in
set_option maxHeartbeats 8000000 in
theorem L1 : PySem.Challenge.rw_hh0003_01.Holds := by
  refine Mine.hd ?_
  k_fill
  intro w s₀ s₁ mg mb G Y fa o pm cd doc dV kV ho hd hcd hD hmg hg args vals as hpre hlay hrd hwl hlo
  have KX := km_in_of Y
  km_tabs Y
  have X := (Ground.X G).1
  have V := (Ground.X G).2
  refine Ground.open G ?_
  intro T B D TE TW
  try (refine guard_noD D (by decide +kernel) ?_; clear D)
  km_lay T hmg ho hd cd
  clear hmg
  wrow_args hpre hlay hrd hwl hlo
  refine enterS_call ?_
  w_top on
  refine knS_post (RowW.prog (OpenRow.toRowW (OpenLaw.row Challenge.rw_hh0003_01))) w hT9 (fun _ _ => rfl) ?_
  have he := Dflts.none hD rfl; subst he; have he := Dflts.noKw hD; subst he
  refine callS_cellsN (by decide) ho (fd_plain hd) (Top.nolimit T) hcd rfl (kinds_of (by kinds_ok)) (by decide) fun h₁ tk₁ cells F N0 X0 => ?_
  cells_open X0
  clear hd
  kn_ghosts F T
  rename IntsAre _ _ => hI
  rename Heap.IsList (ghostOf _ _) _ _ => hl
  rename Frag.In _ (ghostOf _ _) => X9
  rename Top _ _ _ _ _ (ghostOf _ _) => T9
  rename Below _ (ghostOf _ _) _ _ => K9
  rename Fr (ghostOf _ _) _ _ _ => F9
  rename News (ghostOf _ _) _ _ _ => N9
  rename 44 < _ ∧ 37 < _ => l0
  with_unfolding_all refine law_a (Q := _) hI hl K9 F9 X9 T9 N9 l0 ?d1 ?d2 ?d3 ?d4 ?d5 ?d6 ?d7 ?hend
  case d1 => with_unfolding_all assumption
  case d2 => with_unfolding_all assumption
  case d3 => with_unfolding_all assumption
  case d4 => with_unfolding_all assumption
  case d5 => with_unfolding_all assumption
  case d6 => with_unfolding_all assumption
  case d7 => with_unfolding_all assumption
  case hend =>
  intro h' tk hk g37 g44
  dsimp only
  refine ⟨⟨.inl ⟨_, .bool true, [], rfl, fun _ => rfl, ?reads, ?post, ?unsh⟩, hk, rfl, hg⟩, g44, g37, trivial⟩
  case reads => constructor
  case post => exact postW_of (by wrow_shape) (by wtm_val) (by str_meet; first | done | w_fin)
  case unsh => exact fun _ => ⟨.nil, fun _ h => nomatch h⟩
end Mine
end PartL1
set_option maxRecDepth 100000 in
set_option maxHeartbeats 8000000 in
theorem PySem.Challenge.cw_hh0003_01_holds : PySem.Challenge.rw_hh0003_01.Holds := by
  exact Mine.L1
