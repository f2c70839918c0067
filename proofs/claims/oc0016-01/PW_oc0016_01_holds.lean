import PyProof.Rows.All
import Wide.All
import OpenK.AllK
import Wide.FinOn
import KE.LcTurns
import PySem.Challenge.RW_oc0016_01
open PySem PySem.W PySem.Spec PySem.Calls PyProof.Rows
set_option Elab.async false
set_option maxRecDepth 100000
set_option maxHeartbeats 8000000

/-! # M1 -/
namespace Mine

/-- the codes that may hold a buffer -/
def holders : List String := PySem.Builtin.Bytes.decodersThatHold ++ ["bytearray.__contains__", "bytearray.__mod__", "bytearray.__rmod__", "_struct.pack_into.held", "bytearray.find.held"]
def okCode : Code → Bool
  | .builtin id _ => !holders.contains id
  | _ => true
/-- no decoder lies on the stack -/
def Clean (Γ : PySem.Ctx) : Prop := okCode Γ.code = true ∧ ∀ q ∈ Γ.below, okCode q.1 = true

def wpN {α : Type} (M : Model) (A : Around) (t : Sem α) (Q : α → Shared → Prop) (E : Value → Shared → Prop) (s : Shared) : Prop :=
  ∀ Γ p, PySem.Ctx.In Γ A → Clean Γ → Sem.wp M Γ t (fun a _ s' => Q a s') (fun e _ s' => E e s') p s
def codeN (M : Model) (A : Around) (c : Code) (R : Result → Shared → Prop) (s : Shared) : Prop :=
  ∀ Γ p, Γ.code = c → PySem.Ctx.Below Γ A → Clean Γ → wpCode M Γ R p s

section
variable {α β : Type} {M : Model} {A : Around} {E : Value → Shared → Prop} {s : Shared}

theorem wpN_of {t : Sem α} {Q : α → Shared → Prop} (h : wpAny M A t Q E s) : wpN M A t Q E s := fun Γ p hΓ _ => h Γ p hΓ
theorem codeN_of {c : Code} {R : Result → Shared → Prop} (h : codeAny M A c R s) : codeN M A c R s := fun Γ p hc hΓ _ => h Γ p hc hΓ
theorem wpN_pure {a : α} {Q : α → Shared → Prop} (h : Q a s) : wpN M A (pure a) Q E s := wpN_of (wpAny_pure h)
theorem wpN_mono {t : Sem α} {Q Q' : α → Shared → Prop} {E' : Value → Shared → Prop} (h : wpN M A t Q E s)
    (hQ : ∀ a s, Q a s → Q' a s) (hE : ∀ e s, E e s → E' e s) : wpN M A t Q' E' s :=
  fun Γ p hΓ hc => Sem.wp_mono M Γ t (fun a _ s => hQ a s) (fun e _ s => hE e s) p s (h Γ p hΓ hc)
theorem codeN_mono {c : Code} {R R' : Result → Shared → Prop} (h : codeN M A c R s) (hR : ∀ r s, R r s → R' r s) : codeN M A c R' s :=
  fun Γ p hc hΓ k => wpCode_mono hR (h Γ p hc hΓ k)
theorem wpN_bind {m : Sem α} {f : α → Sem β} {Q : β → Shared → Prop} (h : wpN M A m (fun a s' => wpN M A (f a) Q E s') E s) :
    wpN M A (m >>= f) Q E s := fun Γ p hΓ hc => by
  rw [Sem.wp_bind']
  exact Sem.wp_mono M Γ m (fun a p' s' h' => h' Γ p' hΓ hc) (fun _ _ _ h' => h') p s (h Γ p hΓ hc)
/-- the first step by the library's own rules, the rest on clean stacks -/
theorem wpN_then {m : Sem α} {f : α → Sem β} {Q : β → Shared → Prop} (h : wpAny M A m (fun a s' => wpN M A (f a) Q E s') E s) :
    wpN M A (m >>= f) Q E s := wpN_bind (wpN_of h)
theorem wpN_holding {vs : List Value} {m : Sem α} {Q : α → Shared → Prop} (h : wpN M A m Q E s) : wpN M A (holding vs m) Q E s :=
  fun Γ p hΓ hc => by rw [Sem.wp_holding]; exact h Γ p hΓ hc
theorem wpN_onRaise {m : Sem α} {k : Value → Sem Unit} {Q : α → Shared → Prop} (h : wpN M A m Q (fun _ _ => False) s) : wpN M A (m.onRaise k) Q E s := fun Γ p hΓ hc => by
  rw [Sem.wp_onRaise]
  exact Sem.wp_mono M Γ m (fun _ _ _ h' => h') (fun e p' s' h' => h'.elim) p s (h Γ p hΓ hc)
theorem wpN_tryCatch {m : Sem α} {k : Value → Sem α} {Q : α → Shared → Prop} (h : wpN M A m Q (fun _ _ => False) s) : wpN M A (tryCatch m k) Q E s := fun Γ p hΓ hc => by
  rw [Sem.wp_tryCatch']
  exact Sem.wp_mono M Γ m (fun _ _ _ h' => h') (fun e p' s' h' => h'.elim) p s (h Γ p hΓ hc)

theorem clean_enter {Γ : PySem.Ctx} {c : Code} {h : Option Value} {p : Pos} (k : Clean Γ) (hc : okCode c = true) : Clean (Γ.enter c h p) :=
  ⟨hc, fun q hq => by
    have hq' : q ∈ (Γ.code, p) :: Γ.below := hq
    rcases List.mem_cons.mp hq' with rfl | hq'
    · exact k.1
    · exact k.2 q hq'⟩
theorem clean_goto {Γ : PySem.Ctx} {c : Code} (k : Clean Γ) (hc : okCode c = true) : Clean (Γ.goto c) := ⟨hc, k.2⟩

theorem wpN_runValue {c : Code} {Q : Value → Shared → Prop} (hk : okCode c = true)
    (hc : codeN M A c (fun r s' => match r with | .ok (.ret v) => Q v s' | .ok _ => False | .error e => E e s') s) :
    wpN M A (runValue c) Q E s := fun Γ p hΓ k => by rw [Sem.wp_runValue]; exact hc _ p rfl (hΓ.enter c none p (by intro x; cases x)) (clean_enter k hk)
theorem wpN_call {f : Value} {pos : List Value} {kw : List (Str × Value)} {Q : Value → Shared → Prop}
    (hc : codeN M A (.call f ⟨pos, kw⟩) (fun r s' => match r with | .ok (.ret v) => Q v s' | .ok _ => False | .error e => E e s') s) :
    wpN M A (call f pos kw) Q E s := wpN_runValue rfl hc

theorem codeN_of_tree {c : Code} {R : Result → Shared → Prop}
    (h : wpN M (A.under c) (M.den c) (fun fin s' => match fin with | .done f => R (.ok f) s' | .again c' => c'.quiet = true ∧ okCode c' = true ∧ codeN M A c' R s')
      (fun e s' => R (.error e) s') s) : codeN M A c R s := fun Γ p hc hΓ k => by
  rw [wpCode_iff_wp, hc]
  refine Sem.wp_mono M Γ _ (fun fin p' s' h' => ?_) (fun _ _ _ h' => h') p s (h Γ p (hc ▸ hΓ.in) k)
  cases fin with
  | done f => exact h'
  | again c' => exact ⟨h'.1, h'.2.2 (Γ.goto c') p' rfl (hΓ.goto c') (clean_goto k h'.2.1)⟩
end

section
variable {prog : Program} {w : World} {A : Around} {s : Shared} {R : Result → Shared → Prop}
theorem codeN_func {body env}
    (h : wpN (model prog w) (A.deeper env) (execs body env) (fun f s' => R (.ok (.ret (match f with | .ret v => v | _ => .none))) s') (fun _ _ => False) s) :
    codeN (model prog w) A (.func body env) R s := by
  refine codeN_of_tree ?_
  show wpN _ (A.deeper env) (do point; match ← (execs body env).onRaise (leaving env) with | .ret v => ret v | _ => ret .none) _ _ s
  refine wpN_then (wpAny_point (wpN_bind (wpN_onRaise (wpN_mono h (fun f s' h' => ?_) fun _ _ h' => h'))))
  cases f <;> exact wpN_pure h'

theorem codeN_call_function {a : Addr} {args : Args} {o : Obj} {fd : FuncData} {body : List Stmt} (hroom : A.depth < recursionLimit)
    (ho : s.heap.get? a = some o)
    (hd' : o.data = .func fd) (hco : fd.scope.isCoroutine = false) (hgen : fd.scope.isGenerator = false) (hbody : fd.body = .stmts body) (hcd : s.heap.CodeRec fd.code fd.qualname)
    (h : wpAny (model prog w) A.in1 (bindArgs fd args) (fun binds s₁ =>
      wpAny (model prog w) A.in1 (newFunctionEnv fd.scope fd.globals fd.closure binds (fd.qualname ++ ".<locals>.") (some a) fd.code none fd.builtins)
        (fun env s₂ => s₂.heap.NoLimit ∧ codeN (model prog w) A (.func body env) R s₂) (fun _ _ => False) s₁) (fun _ _ => False) s) :
    codeN (model prog w) A (.call (.ref a) args) R s := by
  refine codeN_of_tree ?_
  show wpN _ A.in1 (callAny (.ref a) args) _ _ s
  simp only [callAny]
  refine wpN_then (wpAny_load ho ?_)
  obtain ⟨c, oc, vs, tq, hc, hoc, hdc, hq⟩ := hcd
  simp only [hd', callFunction, hco, hgen, hbody, hc]
  rw [hc] at h
  refine wpN_then (m := field (.ref c) 1) (wpAny_field hoc hdc hq (wpN_then (wpAny_pure ?_)))
  exact wpN_then (wpAny_mono h (fun binds s₁ h₁ => wpN_then (wpAny_mono h₁ (fun env s₂ h₂ => wpN_then (wpAny_enterFrame h₂.1 hroom
    (wpN_pure (And.intro rfl (And.intro rfl h₂.2))))) fun _ _ h' => h'.elim)) fun _ _ h' => h'.elim)
end

/-- the caller's own context is clean -/
theorem caller_clean : Clean ⟨.builtin "claim.caller" {}, none, none, [], none⟩ := ⟨by decide +kernel, fun _ h => (nomatch h)⟩

theorem wp_of_wpN_done {prog : Program} {w : World} {t : Sem Fin} {R : Result → Shared → Prop} {s : Shared}
    (h : wpN (model prog w) callerA t (fun fin s' => ∃ f, fin = .done f ∧ R (.ok f) s') (fun e s' => R (.error e) s') s) (p : Pos) :
    Sem.wp (model prog w) ⟨.builtin "claim.caller" {}, none, none, [], none⟩ t (Sem.finPost (model prog w) ⟨.builtin "claim.caller" {}, none, none, [], none⟩ R) (fun e _ s' => R (.error e) s') p s := by
  refine Sem.wp_mono _ _ t (fun fin p' s' h' => ?_) (fun _ _ _ h' => h') p s (h _ p caller_in caller_clean)
  obtain ⟨f, rfl, hf⟩ := h'
  exact hf

theorem callFrom_of_specD {c : ClaimW} {tree : List Value → Sem Fin} {w : World} {s : Shared} {free : Addr → Prop} {gens : Prop} {kept : Heap → Prop} (hz : s.asleep) (hgens : s.gens = #[])
    (hspec : ∀ args, c.pre args = true → WData.layableAll args = true →
      ∀ ord : List DictEntry → List DictEntry, (∀ l, (ord l).Perm l) →
      ∃ vs s₁, layAllW c.records (classAt s.heap) w.params ord args s = some (vs, s₁) ∧
        wpN (model c.prog w) callerA (tree vs) (fun fin s' => ∃ f, fin = .done f ∧ (c.Ends s args vs s₁ (.ok f) s' ∧ s'.os = s.os ∧ AllBare s'.gens ∧ kept s'.heap))
          (fun e s' => c.Ends s args vs s₁ (.error e) s' ∧ s'.os = s.os ∧ AllBare s'.gens ∧ kept s'.heap) s₁) :
    c.CallFrom (fun vs => ⟨tree vs, .builtin "claim.caller" {}, default, []⟩) w free gens kept s := by
  intro args hpre hlay ord hord
  obtain ⟨vs, s₁, hlaid, hcode⟩ := hspec args hpre hlay ord hord
  have hal := layAllW_rest _ _ _ hlaid
  have hw := wp_of_wpN_done (R := fun r s' => (c.Ends s args vs s₁ r s' ∧ s'.os = s.os ∧ kept s'.heap) ∧ leftWithCleanup s'.gens = false)
    (wpN_mono hcode (fun fin s' y => by
      obtain ⟨f, e, h1, h2, h3, h4⟩ := y
      exact ⟨f, e, ⟨h1, h2, h4⟩, leftWithCleanup_false_of_bare h3⟩) (fun e s' y => by
      obtain ⟨h1, h2, h3, h4⟩ := y
      exact ⟨⟨h1, h2, h4⟩, leftWithCleanup_false_of_bare h3⟩)) default
  obtain ⟨k, r, s'', s', hsched, hrun, hfo, hR⟩ := wp_halts_full (M := model c.prog w) (R := fun r s' => c.Ends s args vs s₁ r s' ∧ s'.os = s.os ∧ kept s'.heap) (Shared.asleep_of_life hal.2.2.2 hz) hw
  obtain ⟨hcase, hos, hkp⟩ := hR
  obtain ⟨eh, _, _, eo, _⟩ := Shared.forget_eq hfo
  have hcase := hcase.congr eh
  have hkp : kept s'.heap := eh ▸ hkp
  rw [← eo] at hos
  have hlife : s'.heap.life = s.heap.life := (runN_life _ _ _ hrun).trans hal.2.2.2
  refine ⟨vs, s₁, hlaid, k, _, s', hsched, ?_, (fun _ i x hx => by rw [hgens] at hx; simp at hx), hkp, by rw [hlife], Shared.rest_eq hos⟩
  rcases hcase with ⟨v, rfl, d1, d2, d3, d4, d5⟩ | ⟨e, ob, cls, rfl, d1, d2, d3, d4, d5⟩
  · exact .inl ⟨v, rfl, d1, d2, d3, fun b o y _ => d4 b o y, d5⟩
  · exact .inr ⟨e, ob, cls, rfl, d1, d2, d3, d4, fun b o y _ => d5 b o y⟩
end Mine

/-! # M2 -/
namespace Mine

/-- the walk that is asked: as the library's WalkO, on clean stacks -/
abbrev WalkD (q : Program) (loose : List Str) (XP : (Str → Option Value) → Heap → Prop) (YP : World → Heap → Prop) (r : RowW) (d : DefRec) (kwd : List (Str × Expr)) : Prop :=
  ∀ (w : World) (s₀ s₁ : Shared) (mg mb : Str → Option Value), Ground q loose r.records XP w s₀ mg mb s₁.heap → YP w s₁.heap → ∀ (a : Addr) (o : Obj) (pm cd doc dV kV : Value), s₁.heap.get? a = some o →
    o.data = .func { docDef d.name d.params d.body d.scope pm cd doc with defaults := dV, kwdefaults := kV } → s₁.heap.CodeRec cd d.name → Dflts mg s₁.heap d.params kwd dV kV → mg d.name = some (.ref a) → s₁.gens = #[] →
    ∀ (args : List WData) (vals : List Value) (as : List Addr), r.claim.pre args = true → WData.layableAll args = true → ReadsAllW r.records (classAt s₀.heap) s₁.heap vals args as → WellAll w.params s₁.heap vals args → (∀ a ∈ as, (a == sysModules) = false) →
      wpN (model r.prog w) callerA (PySem.call (.ref a) vals) (fun v s' => GoodWG r.claim (classAt s₀.heap) (ExcName.means s₀.heap) args s₁ (.ok (.ret v)) s')
        (fun e s' => GoodWG r.claim (classAt s₀.heap) (ExcName.means s₀.heap) args s₁ (.error e) s') s₁

theorem PySem.W.holds_open {r : OpenRow} {q : Program} {loose : List Str} {Xt : Shared → Bool} {XP : (Str → Option Value) → Heap → Prop} {α : Type} {Yf : Shared → α} {Ya : World → α} {YP : World → Heap → Prop} {d : DefRec} {kwd : List (Str × Expr)} {N : Nat}
    (left : LeftO r.prog q loose Xt Yf Ya N) (hY : ∀ w s, Yf s = Ya w → YP w s.heap) (hYk : ∀ w h h', YP w h → (∀ b o, h.get? b = some o → h'.get? b = some o) → YP w h')
    (hX : ∀ s, Xt s = true → XP (s.heap.nsMap mainGlobals) s.heap) (hXk : ∀ mg h h', XP mg h → (∀ b o, h.get? b = some o → h'.get? b = some o) → XP mg h')
    (hdef : defOf q r.name = some (d, kwd)) (hp : r.prog.theDef r.name = some (d.params, d.body, d.scope)) (hk : kwWritten? d.params.kwonlyargs d.params.kw_defaults = some kwd) (hRf : ∀ s, Xt s = true → RecFacts r.records s.heap) (hwr : (!r.writes || r.records.isEmpty) = true)
    (k1 : r.wellSaid = true) (ok : (chainsOk q && opensWell r.prog && (frees r.toRowW && r.within.isEmpty)) = true) (hb : r.prog.bare) (hw : r.toRowW.promised)
    (call : WalkD q loose XP YP r.toRowW d kwd) : r.Holds := by
  refine ⟨k1, hw, ?_⟩
  obtain ⟨ok, k5⟩ := Bool.and_eq_true_iff.mp ok
  obtain ⟨hch, o1⟩ := Bool.and_eq_true_iff.mp ok
  obtain ⟨k5, k6⟩ := Bool.and_eq_true_iff.mp k5
  obtain ⟨hsame, hu, ha, hap, hm⟩ := frees_parts k5
  refine ⟨⟨hb, o1, by show r.toRowW.makers.map _ = []; rw [hm]; rfl⟩, hw.witness, fun w => ⟨(left.behind hX hch w).1, fun s' hs' => ?_⟩⟩
  obtain ⟨s₀, hf, hg0, s, hT, hz, hgens, hg, G00, y⟩ := (left.behind (XP := fun mg h => XP mg h ∧ RecFacts r.records h) (fun s hs => ⟨hX s hs, hRf s hs⟩) hch w).2 s' hs'
  have G0 : Ground q loose [] XP w s (s.heap.nsMap mainGlobals) (s.heap.nsMap builtinsNs) s.heap := ⟨G00.T, G00.B, G00.D, G00.TE, G00.TD, G00.W, G00.X.1, G00.cls, G00.has, G00.apart, G00.once, G00.K⟩
  have RF := G00.X.2
  have hT' := hT
  refine ⟨s₀, hf, hg0, s, hT, fun n hn => ?_, RF.1, RF.2.1, ?_⟩
  · obtain rfl : n = r.name := by split at hn <;> simp_all
    exact pinned_of_view hg G0 hdef hp hk
  have hgens : s.gens = #[] := Array.eq_empty_of_size_eq_zero (beq_iff_eq.mp hgens)
  have G : Ground q loose r.records XP w s _ _ s.heap := RF.ground G0
  refine callFrom_of_specD (c := r.toRowW.claim) (tree := fun vs => do match ← nsGet mainNs r.name with
      | some f => do ret (← PySem.call f vs)
      | none => unsupported "claim.caller:no-such-global") hz hgens fun args hpre hlay ord hord => ?_
  obtain ⟨⟨vs, s₁⟩, hlaid⟩ := Option.isSome_iff_exists.mp (layAllW_isSome (P := w.params) (ord := ord) G.has args r.args s (pre_splitW hpre).1)
  have keeps := layAllW_keeps _ _ _ hlaid
  have hal := layAllW_rest _ _ _ hlaid
  obtain ⟨as, hrd, hin, hold⟩ := reads_layAllW hord _ _ _ hlaid hlay s₁.heap (fun _ _ e => e)
  have L : Laid r.records w s s₁ args vs as := ⟨⟨ord, hord, hlaid⟩, hrd, hin, hold, keeps, hal.1.trans hgens, hal.2.2.1⟩
  have G₁ := G.keeps hXk keeps
  obtain ⟨a, o, pm, cd, doc, dV, kV, h1, h2, h3, h4, h5⟩ := G₁.fn hdef
  have h := call w s s₁ _ _ G₁ (hYk _ _ _ (hY w s y) keeps) a o pm cd doc dV kV h2 h3 h4 h5 (defOf_name hdef ▸ h1) L.gens args vs as hpre hlay L.reads L.well (L.low G.low)
  have hi := ident_freeW hu ha hap
  have hwi : r.toRowW.claim.within = [] := List.isEmpty_iff.mp k6
  refine ⟨vs, s₁, hlaid, ?_⟩
  refine wpN_then (wpAny_nsGet G₁.T.g ?_)
  rw [h1]
  refine wpN_bind (wpN_mono h (fun v s' g => wpN_pure ⟨_, rfl, have z := g.laid (c := r.toRowW.claim) hsame hwi hi L; ⟨z.1, z.2.1, z.2.2, fun q => ⟨namesKept_of hT' hg _ keeps g.2.1.old, noTable hwr q⟩⟩⟩) fun e s' g => have z := g.laid (c := r.toRowW.claim) hsame hwi hi L; ⟨z.1, z.2.1, z.2.2, fun q => ⟨namesKept_of hT' hg _ keeps g.2.1.old, noTable hwr q⟩⟩)

open_top hd for PySem.Challenge.rw_oc0016_01
end Mine

/-! # M3 -/
namespace Mine

/-- all that stood stands -/
abbrev Kp (h h' : Heap) : Prop := ∀ b o, h.get? b = some o → h'.get? b = some o

/-- a context that knows how deep it lies at most -/
abbrev AtC (D U : Nat) : Around := { handled := none, depth := D, frames := none, guards := none, units := U }
theorem in_at {Γ : PySem.Ctx} {A : Around} {D U : Nat} (hh : A.handled = none) (hd : A.depth ≤ D) (hu : A.units ≤ U) (h : PySem.Ctx.In Γ A) : PySem.Ctx.In Γ (AtC D U) :=
  ⟨h.1.trans hh, Nat.le_trans h.2.1 hd, fun _ e => (nomatch e), fun _ e => (nomatch e), Nat.le_trans h.2.2.2.2 hu⟩
theorem any_at {α : Type} {M : Model} {A : Around} {D U : Nat} {t : Sem α} {Q : α → Shared → Prop} {E : Value → Shared → Prop} {s : Shared} (h : wpAny M (AtC D U) t Q E s)
    (hh : A.handled = none := by rfl) (hd : A.depth ≤ D := by exact Nat.le_of_ble_eq_true rfl) (hu : A.units ≤ U := by exact Nat.le_of_ble_eq_true rfl) : wpAny M A t Q E s := fun Γ p hΓ => h Γ p (in_at hh hd hu hΓ)
theorem wpN_at {α : Type} {M : Model} {A : Around} {D U : Nat} {t : Sem α} {Q : α → Shared → Prop} {E : Value → Shared → Prop} {s : Shared} (h : wpN M (AtC D U) t Q E s)
    (hh : A.handled = none := by rfl) (hd : A.depth ≤ D := by exact Nat.le_of_ble_eq_true rfl) (hu : A.units ≤ U := by exact Nat.le_of_ble_eq_true rfl) : wpN M A t Q E s := fun Γ p hΓ k => h Γ p (in_at hh hd hu hΓ) k

section
variable {prog : Program} {w : World} {A : Around} {s : Shared} {K : Frag} {p : Program} {loose : List Str} {mean : ExcName → Option Value} {mg mb : Str → Option Value}
  {R : Result → Shared → Prop} {name qual : Str} {params : Arguments} {body : List Stmt} {scope : Scope} {dV kV doc pm cdv ct oc : Value} {an od : Option Addr} {osl : Array (Option Value)} {f : Addr} {args : Args} {binds : List (Str × Value)}

/-- a def without cells is entered: all that stands is the ground -/
theorem enter_plain (X : K.In s.heap) (T : Top p loose mean mg mb s.heap)
    (ho : K.lookup f = some ⟨oc, od, .func (fnOf name qual params body scope dV kV doc pm an cdv ct), osl⟩) (hcd : codeIn K cdv qual = true) (hroom : A.depth < recursionLimit)
    (hbind : BindsTo s (fnOf name qual params body scope dV kV doc pm an cdv ct) args binds) (hloc : ∀ y ∈ binds, scope.names.lookup y.1 = some .local)
    (h : ∀ L h₁ tk, s.toks + binds.length ≤ tk → Fr s.heap L h₁ (fun y => binds.reverse.lookup y) → News s.heap L h₁ [] →
      wpAny (model prog w) (A.deeper (envOf qual scope L f cdv)) (execs body (envOf qual scope L f cdv))
        (fun fl s' => R (.ok (.ret (match fl with | .ret v => v | _ => .none))) s') (fun _ _ => False) { s with heap := h₁, toks := tk })
    (hcell : ∀ x ∈ scope.names, x.2 ≠ .cell) (hco : scope.isCoroutine = false) (hgen : scope.isGenerator = false) (hk : scope.kind = .function) : codeAny (model prog w) A (.call (.ref f) args) R s := by
  refine codeAny_call_def (fd := fnOf name qual params body scope dV kV doc pm an cdv ct) (body := body) (binds := binds) hroom (X _ _ ho) rfl T.nolimit (codeRec_of X hcd) rfl hbind hcell hloc (fun h₁ hns hk₁ => ?_) hco hgen hk
  exact wpAny_mono (h s.heap.objs.size h₁ _ (Nat.le_refl _) ⟨hns, hk₁, Nat.le_refl _⟩ News.nil) (fun _ _ y => y) fun _ _ y => y.elim

theorem enter_cells (X : K.In s.heap) (T : Top p loose mean mg mb s.heap)
    (ho : K.lookup f = some ⟨oc, od, .func (fnOf name qual params body scope dV kV doc pm an cdv ct), osl⟩) (hcd : codeIn K cdv qual = true) (hroom : A.depth < recursionLimit)
    (hbind : BindsTo s (fnOf name qual params body scope dV kV doc pm an cdv ct) args binds) (hkind : (binds.all fun y => scope.names.lookup y.1 == some .local || scope.names.lookup y.1 == some .cell) = true)
    (hnd : ((cellsFrom 0 scope.names []).map (·.1)).Nodup)
    (h : ∀ L h₁ tk cells, s.toks ≤ tk → Fr s.heap L h₁ (bindL (envOfC qual scope L f cdv).kindOf binds fun _ => none) → News s.heap L h₁ cells →
      CellsAre (bindC (envOfC qual scope L f cdv).kindOf binds fun _ => none) (cellsFrom (L + 1) scope.names []) cells →
      wpAny (model prog w) (A.deeper (envOfC qual scope L f cdv)) (execs body (envOfC qual scope L f cdv))
        (fun fl s' => R (.ok (.ret (match fl with | .ret v => v | _ => .none))) s') (fun _ _ => False) { s with heap := h₁, toks := tk })
    (hco : scope.isCoroutine = false) (hgen : scope.isGenerator = false) (hk : scope.kind = .function) : codeAny (model prog w) A (.call (.ref f) args) R s := by
  refine codeAny_call_function hroom (X _ _ ho) rfl hco hgen rfl (codeRec_of X hcd) (hbind _ _ _ _ ?_)
  refine wpAny_with_toks (Nat.le_refl _) (wpAny_newFunctionEnv_cells hk (kindsX hkind _) fun env' he s' x htk => ?_)
  subst he
  refine ⟨T.nolimit.keeps x.toInCall.keep, codeAny_func ?_⟩
  obtain ⟨h₁, tk, rfl, _⟩ := x.done
  have hk₁ := x.toInCall.keep
  obtain ⟨cells, NC, Y⟩ := Cl.news (h₀ := s.heap) (Nat.le_refl _) fun n c hm => ⟨x.cell n c (lookup_of_mem_nodup (cellsFrom_names scope.names 0 (s.heap.objs.size + 1) [] [] rfl ▸ hnd) hm), x.above n c hm⟩
  exact wpAny_mono (h s.heap.objs.size h₁ tk cells htk ⟨x.toInCall.ns, hk₁, Nat.le_refl _⟩ NC Y) (fun fl s' hl => hl) fun _ _ y => y.elim

theorem enter_plainN (X : K.In s.heap) (T : Top p loose mean mg mb s.heap)
    (ho : K.lookup f = some ⟨oc, od, .func (fnOf name qual params body scope dV kV doc pm an cdv ct), osl⟩) (hcd : codeIn K cdv qual = true) (hroom : A.depth < recursionLimit)
    (hbind : BindsTo s (fnOf name qual params body scope dV kV doc pm an cdv ct) args binds) (hloc : ∀ y ∈ binds, scope.names.lookup y.1 = some .local)
    (h : ∀ L h₁ tk, s.toks + binds.length ≤ tk → Fr s.heap L h₁ (fun y => binds.reverse.lookup y) → News s.heap L h₁ [] →
      wpN (model prog w) (A.deeper (envOf qual scope L f cdv)) (execs body (envOf qual scope L f cdv))
        (fun fl s' => R (.ok (.ret (match fl with | .ret v => v | _ => .none))) s') (fun _ _ => False) { s with heap := h₁, toks := tk })
    (hcell : ∀ x ∈ scope.names, x.2 ≠ .cell) (hco : scope.isCoroutine = false) (hgen : scope.isGenerator = false) (hk : scope.kind = .function) : codeN (model prog w) A (.call (.ref f) args) R s := by
  refine codeN_call_function hroom (X _ _ ho) rfl hco hgen rfl (codeRec_of X hcd) (hbind _ _ _ _ ?_)
  refine wpAny_newFunctionEnv hcell hloc (fun h₁ hns hsb => ⟨T.nolimit.fresh _ hsb, codeN_func ?_⟩) hk
  exact h s.heap.objs.size h₁ _ (Nat.le_refl _) ⟨hns, fun b o e => hsb.extBut b o (Nat.ne_of_lt (Heap.lt_size e)) (Heap.get?_push_of_some _ e), Nat.le_refl _⟩ News.nil

theorem enter_cellsN (X : K.In s.heap) (T : Top p loose mean mg mb s.heap)
    (ho : K.lookup f = some ⟨oc, od, .func (fnOf name qual params body scope dV kV doc pm an cdv ct), osl⟩) (hcd : codeIn K cdv qual = true) (hroom : A.depth < recursionLimit)
    (hbind : BindsTo s (fnOf name qual params body scope dV kV doc pm an cdv ct) args binds) (hkind : (binds.all fun y => scope.names.lookup y.1 == some .local || scope.names.lookup y.1 == some .cell) = true)
    (hnd : ((cellsFrom 0 scope.names []).map (·.1)).Nodup)
    (h : ∀ L h₁ tk cells, s.toks ≤ tk → Fr s.heap L h₁ (bindL (envOfC qual scope L f cdv).kindOf binds fun _ => none) → News s.heap L h₁ cells →
      CellsAre (bindC (envOfC qual scope L f cdv).kindOf binds fun _ => none) (cellsFrom (L + 1) scope.names []) cells →
      wpN (model prog w) (A.deeper (envOfC qual scope L f cdv)) (execs body (envOfC qual scope L f cdv))
        (fun fl s' => R (.ok (.ret (match fl with | .ret v => v | _ => .none))) s') (fun _ _ => False) { s with heap := h₁, toks := tk })
    (hco : scope.isCoroutine = false) (hgen : scope.isGenerator = false) (hk : scope.kind = .function) : codeN (model prog w) A (.call (.ref f) args) R s := by
  refine codeN_call_function hroom (X _ _ ho) rfl hco hgen rfl (codeRec_of X hcd) (hbind _ _ _ _ ?_)
  refine wpAny_with_toks (Nat.le_refl _) (wpAny_newFunctionEnv_cells hk (kindsX hkind _) fun env' he s' x htk => ?_)
  subst he
  refine ⟨T.nolimit.keeps x.toInCall.keep, codeN_func ?_⟩
  obtain ⟨h₁, tk, rfl, _⟩ := x.done
  have hk₁ := x.toInCall.keep
  obtain ⟨cells, NC, Y⟩ := Cl.news (h₀ := s.heap) (Nat.le_refl _) fun n c hm => ⟨x.cell n c (lookup_of_mem_nodup (cellsFrom_names scope.names 0 (s.heap.objs.size + 1) [] [] rfl ▸ hnd) hm), x.above n c hm⟩
  exact h s.heap.objs.size h₁ tk cells htk ⟨x.toInCall.ns, hk₁, Nat.le_refl _⟩ NC Y
end
end Mine

/-! # M4 -/
namespace Mine

/-! ## texts as lists of code points -/
abbrev tx (l : List Nat) : Str := ⟨l.toArray⟩
theorem tx_cps (x : Str) : tx x.cps.toList = x := by cases x; simp [tx]
theorem tx_len (l : List Nat) : (tx l).length = l.length := by simp [tx, Str.length]
theorem tx_app (a b : List Nat) : (tx a) ++ (tx b) = tx (a ++ b) := by
  show Str.append _ _ = _
  simp [tx, Str.append]

/-- every c turned into z -/
def rl (c : Nat) (z l : List Nat) : List Nat := l.flatMap fun d => if d = c then z else [d]
theorem rl_nil (c : Nat) (z : List Nat) : rl c z [] = [] := rfl
theorem rl_app (c : Nat) (z a b : List Nat) : rl c z (a ++ b) = rl c z a ++ rl c z b := by simp [rl]
theorem rl_free (c : Nat) (z : List Nat) : ∀ l : List Nat, c ∉ l → rl c z l = l
  | [], _ => rfl
  | d :: l, h => by
    have h1 : d ≠ c := fun e => h (by rw [e]; exact .head _)
    have h2 := rl_free c z l (fun q => h (.tail _ q))
    show (if d = c then z else [d]) ++ rl c z l = _
    rw [if_neg h1, h2]; rfl
theorem rl_one (c : Nat) (z : List Nat) : rl c z [c] = z := by simp [rl]
theorem rl_len (c : Nat) (z : List Nat) (k : Nat) (hk : z.length ≤ k) (h1 : 1 ≤ k) : ∀ l : List Nat, (rl c z l).length ≤ l.length * k
  | [] => by simp [rl]
  | d :: l => by
    have := rl_len c z k hk h1 l
    show ((if d = c then z else [d]) ++ rl c z l).length ≤ _
    rw [List.length_append, List.length_cons, Nat.add_mul]
    split <;> simp <;> omega

theorem join_rl (c : Nat) (z : Str) : ∀ ps : List Str, (∀ p ∈ ps, c ∉ p.cps.toList) → (Str.join z ps).cps.toList = rl c z.cps.toList (Str.join ⟨#[c]⟩ ps).cps.toList
  | [], _ => rfl
  | [p], h => (rl_free c _ _ (h p (List.mem_singleton.mpr rfl))).symm
  | p :: q :: r, h => by
    have ih := join_rl c z (q :: r) fun a ha => h a (List.mem_cons_of_mem _ ha)
    show (p ++ z ++ Str.join z (q :: r)).cps.toList = rl c z.cps.toList (p ++ ⟨#[c]⟩ ++ Str.join ⟨#[c]⟩ (q :: r)).cps.toList
    simp only [Str.cps_append, Array.toList_append]
    rw [rl_app, rl_app, ih, rl_free c _ _ (h p (List.mem_cons_self ..))]
    show _ = p.cps.toList ++ rl c z.cps.toList [c] ++ _
    rw [rl_one]
theorem replace_rl (l z : List Nat) (c : Nat) : Txt.replace (tx l) ⟨#[c]⟩ (tx z) = tx (rl c z l) := by
  have h := StrLaws.replace_one (tx l) (tx z) c
  have h2 := join_rl c (tx z) _ (StrLaws.split_free (tx l) c)
  rw [StrLaws.join_split] at h2
  rw [h]
  apply StrLaws.mk_of_toList
  rw [h2]
theorem replace_none (l z : List Nat) (c : Nat) (h : (Builtin.Str.occurrences (tx l) ⟨#[c]⟩ 0 (tx l).length 1).isEmpty = true) : rl c z l = l := by
  have h1 := StrLaws.found_one (tx l) c
  rw [h] at h1
  exact rl_free c z l (of_decide_eq_false h1.symm)

section
variable {prog : Program} {w : World} {A : Around} {E : Value → Shared → Prop} {s : Shared} {h₀ : Heap} {L a : Addr} {m : Str → Option Value} {cn : Str} {cs : Scope} {ccd : Value}

/-- if c in text: text = text.replace(c, z) -/
theorem if_rep {c : Nat} {yc zc : Str} {z l : List Nat} {t : Tok} {k1 k2 k3 : Nat} {p1 p2 p3 p4 p5 p6 p7 p8 p9 p10 p11 : Pos} {Q : Flow → Shared → Prop}
    (F : Fr h₀ L s.heap m) (hm : m (Str.ofString "text") = some (.str (tx l) t)) (htk : 0 < s.toks) (hl : l.length ≤ 100000) (hz : z.length ≤ 100) (hyc : yc = ⟨#[c]⟩) (hzc : zc = tx z) (hyz : ((⟨#[c]⟩ : Str) == tx z) = false)
    (hk : cs.kind = .function) (hx : (envOf cn cs L a ccd).kindOf (Str.ofString "text") = some .local)
    (h : ∀ h' tk t', 0 < tk → Fr h₀ L h' (fun y => if y = Str.ofString "text" then some (.str (tx (rl c z l)) t') else m y) → Q .next { s with heap := h', toks := tk })
    {pl : Sem Bool}
    (he : eval (.Call (.Attribute (.Name (Str.ofString "text") p5) (Str.ofString "replace") p6) [.Constant (.str yc) k2 p7, .Constant (.str zc) k3 p8] [] p9) (envOf cn cs L a ccd) = (do
      let ov ← eval (.Name (Str.ofString "text") p5) (envOf cn cs L a ccd)
      standAt p6.atName
      let (f, first) ← holding [ov] (getMethod ov (Str.ofString "replace") pl)
      callWith p9 f first (backTo p9 (starEach [.Constant (.str yc) k2 p7, .Constant (.str zc) k3 p8] (envOf cn cs L a ccd))) [])) :
    wpAny (model prog w) A (exec (.If (.Compare (.Constant (.str yc) k1 p1) [.In] [.Name (Str.ofString "text") p2] p3) [.Assign [.Name (Str.ofString "text") p4] (.Call (.Attribute (.Name (Str.ofString "text") p5) (Str.ofString "replace") p6) [.Constant (.str yc) k2 p7, .Constant (.str zc) k3 p8] [] p9) p10] [] p11) (envOf cn cs L a ccd)) Q E s := by
  subst hyc hzc
  refine wpAny_If (wpAny_isTrue_Compare1 ?_ rfl)
  refine Constant_str (ld F hm ?_ hk hx (by decide))
  refine in_str (wpAny_truthy_bool ?_)
  cases hc : (Builtin.Str.occurrences (tx l) ⟨#[c]⟩ 0 (tx l).length 1).isEmpty with
  | true =>
    simp only [Bool.not_true, Bool.false_eq_true, if_false]
    refine wpAny_execs_nil (h _ _ t (by show 0 < s.toks + 1; omega) ?_)
    rw [replace_none l z c hc]
    have e : (fun y => if y = Str.ofString "text" then some (Value.str (tx l) t) else m y) = m := by
      funext y
      by_cases q : y = Str.ofString "text"
      · rw [if_pos q, q, hm]
      · rw [if_neg q]
    rw [e]; exact F
  | false =>
    simp only [Bool.not_false, if_true]
    refine wpAny_execs_cons (wpAny_Assign_Name ?_ rfl)
    refine MethodCall_ (ld F hm ?_ hk hx (by decide)) he
    refine GM.replace ?_
    refine callWith_method1 ?_
    refine spliced_more (Constant_str (spliced_more (Constant_str (spliced_none ?_))))
    show wpAny _ _ (call (.builtin "str.replace") [.str (tx l) t, .str ⟨#[c]⟩ _, .str (tx z) _]) _ _ _
    refine SC.replace ?_ ?_ ?_ hyz ?_ ?_
    · show s.toks + 1 ≠ 0; omega
    · show s.toks + 1 + 1 ≠ 0; omega
    · show s.toks + 1 ≠ s.toks + 1 + 1; omega
    · rw [tx_len, tx_len]
      have : (l.length + 1) * z.length ≤ 100001 * 100 := Nat.mul_le_mul (by omega) hz
      omega
    intro t' k
    refine st F (fun h' F' => ?_) hk hx
    refine wpAny_execs_nil (h _ _ t' (by show 0 < k + 1; omega) ?_)
    rw [replace_rl] at F'
    exact F'
end
end Mine

/-! # M5 -/
namespace Mine

def escC (l : List Nat) : List Nat := rl 13 [38, 35, 120, 68, 59] (rl 62 [38, 103, 116, 59] (rl 60 [38, 108, 116, 59] (rl 38 [38, 97, 109, 112, 59] l)))
def escA (l : List Nat) : List Nat := rl 13 [38, 35, 120, 68, 59] (rl 10 [38, 35, 120, 65, 59] (rl 9 [38, 35, 120, 57, 59] (rl 34 [38, 113, 117, 111, 116, 59] (rl 60 [38, 108, 116, 59] (rl 38 [38, 97, 109, 112, 59] l)))))

section
variable {prog : Program} {w : World} {A : Around} {s : Shared} {p : Program} {loose : List Str} {mean : ExcName → Option Value} {mg mb : Str → Option Value} {Q E : Value → Shared → Prop}

theorem C_cdata (X : (Mine.hd.heap_39 w.params).In s.heap) (T : Top p loose mean mg mb s.heap) {l : List Nat} {t : Tok} (hl : l.length ≤ 8)
    (ret : ∀ h' tk t', Kp s.heap h' → 0 < tk → Q (.str (tx (escC l)) t') { s with heap := h', toks := tk }) :
    wpAny (model prog w) (AtC 390 490) (call (.ref 35) [.str (tx l) t]) Q E s := by
  refine wpAny_call ?_
  refine' enter_plain (binds := [(Str.ofString "text", Value.str (tx l) t)]) X T ?ho ?hcd ?room ?hb ?hl ?h ?c1 ?c2 ?c3 ?c4
  case ho => k_is
  case hcd => k_is
  case room => exact Nat.le_of_ble_eq_true rfl
  case hb => exact BindsTo.of_eq rfl
  case hl => exact locs rfl
  case c1 => decide
  case c2 => exact rfl
  case c3 => exact rfl
  case c4 => exact rfl
  intro L h₁ tk htk F N
  have htk0 : 0 < tk := by simp only [List.length_cons, List.length_nil] at htk; omega
  have l1 := rl_len 38 [38, 97, 109, 112, 59] 5 (by decide) (by decide) l
  have l2 := rl_len 60 [38, 108, 116, 59] 5 (by decide) (by decide) (rl 38 [38, 97, 109, 112, 59] l)
  have l3 := rl_len 62 [38, 103, 116, 59] 5 (by decide) (by decide) (rl 60 [38, 108, 116, 59] (rl 38 [38, 97, 109, 112, 59] l))
  refine wpAny_execs_cons (wpAny_Try_except ?_)
  refine wpAny_execs_cons (if_rep (c := 38) (l := l) (t := t) F rfl htk0 (by omega) (by decide) (by decide +kernel) (z := [38, 97, 109, 112, 59]) (by decide +kernel) (by decide +kernel) rfl rfl ?_ rfl)
  intro h₂ tk₂ t₂ k₂ F₂
  refine wpAny_execs_cons (if_rep (c := 60) F₂ rfl k₂ (by omega) (by decide) (by decide +kernel) (z := [38, 108, 116, 59]) (by decide +kernel) (by decide +kernel) rfl rfl ?_ rfl)
  intro h₃ tk₃ t₃ k₃ F₃
  refine wpAny_execs_cons (if_rep (c := 62) F₃ rfl k₃ (by omega) (by decide) (by decide +kernel) (z := [38, 103, 116, 59]) (by decide +kernel) (by decide +kernel) rfl rfl ?_ rfl)
  intro h₄ tk₄ t₄ k₄ F₄
  refine wpAny_execs_cons (if_rep (c := 13) F₄ rfl k₄ (by omega) (by decide) (by decide +kernel) (z := [38, 35, 120, 68, 59]) (by decide +kernel) (by decide +kernel) rfl rfl ?_ rfl)
  intro h₅ tk₅ t₅ k₅ F₅
  refine wpAny_execs_cons (wpAny_Return_some (ld F₅ rfl ?_ rfl rfl (by decide)))
  exact ret _ _ _ F₅.keep k₅

theorem C_attrib (X : (Mine.hd.heap_39 w.params).In s.heap) (T : Top p loose mean mg mb s.heap) {l : List Nat} {t : Tok} (hl : l.length ≤ 8)
    (ret : ∀ h' tk t', Kp s.heap h' → 0 < tk → Q (.str (tx (escA l)) t') { s with heap := h', toks := tk }) :
    wpAny (model prog w) (AtC 390 490) (call (.ref 42) [.str (tx l) t]) Q E s := by
  refine wpAny_call ?_
  refine' enter_plain (binds := [(Str.ofString "text", Value.str (tx l) t)]) X T ?ho ?hcd ?room ?hb ?hl ?h ?c1 ?c2 ?c3 ?c4
  case ho => k_is
  case hcd => k_is
  case room => exact Nat.le_of_ble_eq_true rfl
  case hb => exact BindsTo.of_eq rfl
  case hl => exact locs rfl
  case c1 => decide
  case c2 => exact rfl
  case c3 => exact rfl
  case c4 => exact rfl
  intro L h₁ tk htk F N
  have htk0 : 0 < tk := by simp only [List.length_cons, List.length_nil] at htk; omega
  have l1 := rl_len 38 [38, 97, 109, 112, 59] 6 (by decide) (by decide) l
  have l2 := rl_len 60 [38, 108, 116, 59] 6 (by decide) (by decide) (rl 38 [38, 97, 109, 112, 59] l)
  have l3 := rl_len 34 [38, 113, 117, 111, 116, 59] 6 (by decide) (by decide) (rl 60 [38, 108, 116, 59] (rl 38 [38, 97, 109, 112, 59] l))
  have l4 := rl_len 9 [38, 35, 120, 57, 59] 6 (by decide) (by decide) (rl 34 [38, 113, 117, 111, 116, 59] (rl 60 [38, 108, 116, 59] (rl 38 [38, 97, 109, 112, 59] l)))
  have l5 := rl_len 10 [38, 35, 120, 65, 59] 6 (by decide) (by decide) (rl 9 [38, 35, 120, 57, 59] (rl 34 [38, 113, 117, 111, 116, 59] (rl 60 [38, 108, 116, 59] (rl 38 [38, 97, 109, 112, 59] l))))
  refine wpAny_execs_cons (wpAny_Try_except ?_)
  refine wpAny_execs_cons (if_rep (c := 38) (l := l) (t := t) F rfl htk0 (by omega) (by decide) (by decide +kernel) (z := [38, 97, 109, 112, 59]) (by decide +kernel) (by decide +kernel) rfl rfl ?_ rfl)
  intro h₂ tk₂ t₂ k₂ F₂
  refine wpAny_execs_cons (if_rep (c := 60) F₂ rfl k₂ (by omega) (by decide) (by decide +kernel) (z := [38, 108, 116, 59]) (by decide +kernel) (by decide +kernel) rfl rfl ?_ rfl)
  intro h₃ tk₃ t₃ k₃ F₃
  refine wpAny_execs_cons (if_rep (c := 34) F₃ rfl k₃ (by omega) (by decide) (by decide +kernel) (z := [38, 113, 117, 111, 116, 59]) (by decide +kernel) (by decide +kernel) rfl rfl ?_ rfl)
  intro h₄ tk₄ t₄ k₄ F₄
  refine wpAny_execs_cons (if_rep (c := 9) F₄ rfl k₄ (by omega) (by decide) (by decide +kernel) (z := [38, 35, 120, 57, 59]) (by decide +kernel) (by decide +kernel) rfl rfl ?_ rfl)
  intro h₅ tk₅ t₅ k₅ F₅
  refine wpAny_execs_cons (if_rep (c := 10) F₅ rfl k₅ (by omega) (by decide) (by decide +kernel) (z := [38, 35, 120, 65, 59]) (by decide +kernel) (by decide +kernel) rfl rfl ?_ rfl)
  intro h₆ tk₆ t₆ k₆ F₆
  refine wpAny_execs_cons (if_rep (c := 13) F₆ rfl k₆ (by omega) (by decide) (by decide +kernel) (z := [38, 35, 120, 68, 59]) (by decide +kernel) (by decide +kernel) rfl rfl ?_ rfl)
  intro h₇ tk₇ t₇ k₇ F₇
  refine wpAny_execs_cons (wpAny_Return_some (ld F₇ rfl ?_ rfl rfl (by decide)))
  exact ret _ _ _ F₇.keep k₇
end
end Mine

/-! # M6 -/
namespace Mine

section
variable {prog : Program} {w : World} {A : Around} {E : Value → Shared → Prop} {s : Shared} {env : Env} {h₀ : Heap} {x : Str} {body : List Stmt} {Q : Flow → Shared → Prop} {m₀ : Str → Option Value} {news : List (Addr × Obj)}

/-- a loop by any walk of its iterator -/
theorem loop_gen {I : Addr} {fp : List Addr} {n : Nat} {P : Nat → Value → Prop} {St : Nat → Heap → Prop} (J : Nat → (Str → Option Value) → List (Addr × Obj) → Prop)
    (W : Walks prog w A I fp [I] n P St) (hI0 : h₀.get? I = none) (hLf : env.locals ∉ fp) (hoff : ∀ p ∈ news, p.1 ∉ fp)
    (st : St 0 s.heap) (F : Fr h₀ env.locals s.heap m₀) (N : News h₀ env.locals s.heap news) (hj : J 0 m₀ news) (hIf : I ∈ fp)
    (turn : ∀ i v m₁ news₁ h tk own, i < n → P i v → news₁.map (·.1) = news.map (·.1) → OwnOff own (news.map (·.1)) → J i m₁ news₁ → Fr h₀ env.locals h (fun y => if y = x then some v else m₁ y) → News h₀ env.locals h (news₁ ++ own) →
      wpAny (model prog w) A (execs body env) (InvPostN h₀ env.locals (J (i + 1)) own (news.map (·.1)) { s with heap := h, toks := tk } Q) E { s with heap := h, toks := tk })
    (done : ∀ m₁ news₁ h tk, J n m₁ news₁ → Fr h₀ env.locals h m₁ → News h₀ env.locals h news₁ → Q .next { s with heap := h, toks := tk }) :
    LoopAtV prog w A h₀ env x body Q E (.ref I) s := by
  let J' : Nat → (Str → Option Value) → List (Addr × Obj) → Prop := fun i m₁ news₁ => news₁.map (·.1) = news.map (·.1) ∧ J i m₁ news₁
  refine ⟨I, fp, [I], n, P, St, m₀, news, J', rfl, W, hLf, ?_, ?_, st, F, N, ⟨rfl, hj⟩, ?_, ?_⟩
  · intro b hb
    rw [List.mem_singleton.mp hb]; exact hI0
  · intro p hp hq
    exact hoff p hp ((List.mem_singleton.mp hq) ▸ hIf)
  · rintro i v m₁ news₁ s₁ own ⟨hh', tk', rfl⟩ hin hP ⟨hadr, hJ⟩ hof hown _ _ _ F₁ N₁
    have hsep : OwnOff own (news.map (·.1)) := by
      intro p hp b hb e
      obtain ⟨q, hq, rfl⟩ := List.mem_map.mp hb
      exact hoff q hq (e ▸ hown p hp)
    have N₂ : News h₀ env.locals hh' (news₁ ++ own) := fun p hp => N₁ p ((List.mem_append.mp hp).elim (fun h => List.mem_append.mpr (.inr h)) fun h => List.mem_append.mpr (.inl h))
    refine wpAny_mono (turn i v m₁ news₁ hh' tk' own hin hP hadr hsep hJ F₁ N₂) (fun f s₂ p => ?_) fun _ _ e => e
    have fin : InvEndN h₀ env.locals (J (i + 1)) own (news.map (·.1)) { s with heap := hh', toks := tk' } s₂ → LoopStepU h₀ env.locals [I] own (J' (i + 1)) { s with heap := hh', toks := tk' } .next s₂ := by
      rintro ⟨h', tk, m', news', nx, e, F', N', hn, ho, ha, hm⟩
      refine ⟨rfl, h', tk, m', nx, e, F', fun p hp => N' p ((List.mem_append.mp hp).elim (ho p) (hn p)), fun p hp hq => ?_, ha, hm⟩
      have h1 : p.1 ∈ nx.map (·.1) := List.mem_map.mpr ⟨p, hp, rfl⟩
      rw [ha, ← hadr] at h1
      obtain ⟨q, hq1, hq2⟩ := List.mem_map.mp h1
      exact hof q hq1 (by rw [hq2]; exact hq)
    cases f with
    | ret v => exact .ret p
    | brk => exact .brk p
    | next => exact .next (fin p)
    | cont => exact .cont (fin p)
  · rintro h' tk m' news' F' N' _ ⟨_, hJ⟩
    exact done m' news' h' tk hJ F' N'

theorem iter_rng {r : Addr} {a₀ b₀ c : Int} {t₀ u₀ v₀ : Tok} {n : Nat} (J : Nat → (Str → Option Value) → List (Addr × Obj) → Prop) (hh : A.handled = none)
    (hr : IsRange s.heap r a₀ b₀ c t₀ u₀ v₀) (hsmall : Builtin.Range.small a₀ b₀ c = true) (hn : Builtin.Range.rangeSize a₀ b₀ c = (n : Int)) (F : Fr h₀ env.locals s.heap m₀) (N : News h₀ env.locals s.heap news) (hj : J 0 m₀ news)
    (turn : ∀ i t m₁ news₁ h tk own, i < n → news₁.map (·.1) = news.map (·.1) → OwnOff own (news.map (·.1)) → J i m₁ news₁ → Fr h₀ env.locals h (fun y => if y = x then some (.int (a₀ + (i : Nat) * c) t) else m₁ y) → News h₀ env.locals h (news₁ ++ own) →
      wpAny (model prog w) A (execs body env) (InvPostN h₀ env.locals (J (i + 1)) own (news.map (·.1)) { s with heap := h, toks := tk } Q) E { s with heap := h, toks := tk })
    (done : ∀ m₁ news₁ h tk, J n m₁ news₁ → Fr h₀ env.locals h m₁ → News h₀ env.locals h news₁ → Q .next { s with heap := h, toks := tk }) :
    wpAny (model prog w) A (pyIter (.ref r)) (fun it s₂ => LoopAtV prog w A h₀ env x body Q E it s₂) E s := by
  refine wpAny_pyIter_range hr hsmall ?_
  have hnew := next_is_new F
  refine loop_gen (P := fun i v => ∃ t, v = .int (a₀ + (i : Nat) * c) t) J (Walks.range hh _ a₀ c n) hnew ?_ ?_ (by show IsRangeIter _ _ _ _ _; rw [hn]; simpa using Heap.get?_push_size _ rfl) (F.push _) (fun p hp => ⟨Heap.get?_push_of_some _ (N p hp).1, (N p hp).2⟩) hj (List.mem_singleton.mpr rfl) ?_ ?_
  · intro hm
    exact absurd F.ns.lt ((List.mem_singleton.mp hm) ▸ Nat.lt_irrefl _)
  · intro p hp hI
    exact absurd (Heap.lt_size (N p hp).1) ((List.mem_singleton.mp hI) ▸ Nat.lt_irrefl _)
  · rintro i v m₁ news₁ h tk own hi ⟨t, rfl⟩ ha ho hJ F₁ N₁
    exact turn i t m₁ news₁ h tk own hi ha ho hJ F₁ N₁
  · exact done

theorem iter_txt {l : List Nat} {t₀ : Tok} (J : Nat → (Str → Option Value) → List (Addr × Obj) → Prop) (hh : A.handled = none)
    (F : Fr h₀ env.locals s.heap m₀) (N : News h₀ env.locals s.heap news) (hj : J 0 m₀ news)
    (turn : ∀ i c t m₁ news₁ h tk own, l[i]? = some c → news₁.map (·.1) = news.map (·.1) → OwnOff own (news.map (·.1)) → J i m₁ news₁ → Fr h₀ env.locals h (fun y => if y = x then some (.str ⟨#[c]⟩ t) else m₁ y) → News h₀ env.locals h (news₁ ++ own) →
      wpAny (model prog w) A (execs body env) (InvPostN h₀ env.locals (J (i + 1)) own (news.map (·.1)) { s with heap := h, toks := tk } Q) E { s with heap := h, toks := tk })
    (done : ∀ m₁ news₁ h tk, J l.length m₁ news₁ → Fr h₀ env.locals h m₁ → News h₀ env.locals h news₁ → Q .next { s with heap := h, toks := tk }) :
    wpAny (model prog w) A (pyIter (.str (tx l) t₀)) (fun it s₂ => LoopAtV prog w A h₀ env x body Q E it s₂) E s := by
  refine wpAny_pyIter_str fun o St W st => ?_
  have hnew := next_is_new F
  have hlen : (tx l).cps.size = l.length := by simp
  refine loop_gen (P := SignAt (tx l)) J (hlen ▸ W A hh) hnew ?_ ?_ st (F.push _) (fun p hp => ⟨Heap.get?_push_of_some _ (N p hp).1, (N p hp).2⟩) hj (List.mem_singleton.mpr rfl) ?_ ?_
  · intro hm
    exact absurd F.ns.lt ((List.mem_singleton.mp hm) ▸ Nat.lt_irrefl _)
  · intro p hp hI
    exact absurd (Heap.lt_size (N p hp).1) ((List.mem_singleton.mp hI) ▸ Nat.lt_irrefl _)
  · rintro i v m₁ news₁ h tk own hi ⟨c, u, hc, rfl⟩ ha ho hJ F₁ N₁
    exact turn i c u m₁ news₁ h tk own (by simpa using hc) ha ho hJ F₁ N₁
  · exact done

theorem iter_lst {l : Addr} {vs : List Value} (J : Nat → (Str → Option Value) → List (Addr × Obj) → Prop) (hh : A.handled = none)
    (hl : s.heap.IsList l vs.toArray) (hlL : l ≠ env.locals) (hln : ∀ p ∈ news, p.1 ≠ l)
    (F : Fr h₀ env.locals s.heap m₀) (N : News h₀ env.locals s.heap news) (hj : J 0 m₀ news)
    (turn : ∀ i v m₁ news₁ h tk own, vs[i]? = some v → news₁.map (·.1) = news.map (·.1) → OwnOff own (news.map (·.1)) → J i m₁ news₁ → Fr h₀ env.locals h (fun y => if y = x then some v else m₁ y) → News h₀ env.locals h (news₁ ++ own) →
      wpAny (model prog w) A (execs body env) (InvPostN h₀ env.locals (J (i + 1)) own (news.map (·.1)) { s with heap := h, toks := tk } Q) E { s with heap := h, toks := tk })
    (done : ∀ m₁ news₁ h tk, J vs.length m₁ news₁ → Fr h₀ env.locals h m₁ → News h₀ env.locals h news₁ → Q .next { s with heap := h, toks := tk }) :
    wpAny (model prog w) A (pyIter (.ref l)) (fun it s₂ => LoopAtV prog w A h₀ env x body Q E it s₂) E s := by
  obtain ⟨ol, hol, _⟩ := id hl
  have hne : l ≠ s.heap.objs.size := Nat.ne_of_lt (Heap.lt_size hol)
  refine wpAny_pyIter_list hl ?_
  have hnew := next_is_new F
  have W := Walks.list (prog := prog) (w := w) hh s.heap.objs.size l hne vs.toArray
  rw [List.size_toArray] at W
  refine loop_gen J W hnew ?_ ?_ ⟨⟨_, Heap.get?_push_size _ rfl, rfl, rfl⟩, hl.at fun o e => Heap.get?_push_of_some _ e⟩ (F.push _) (fun p hp => ⟨Heap.get?_push_of_some _ (N p hp).1, (N p hp).2⟩) hj (List.mem_cons_self ..) ?_ ?_
  · intro hm
    rcases List.mem_cons.mp hm with e | hm
    · exact absurd F.ns.lt (e ▸ Nat.lt_irrefl _)
    · exact hlL (List.mem_singleton.mp hm).symm
  · intro p hp hI
    rcases List.mem_cons.mp hI with e | hm
    · exact absurd (Heap.lt_size (N p hp).1) (e ▸ Nat.lt_irrefl _)
    · exact hln p hp (List.mem_singleton.mp hm)
  · rintro i v m₁ news₁ h tk own hi hP ha ho hJ F₁ N₁
    exact turn i v m₁ news₁ h tk own (by simpa using hP) ha ho hJ F₁ N₁
  · exact done

/-- the range that a loop of n turns by c takes -/
theorem rng_size {n c : Nat} (hc : 0 < c) : Builtin.Range.rangeSize 0 ((n * c : Nat) : Int) (c : Int) = (n : Int) := by
  unfold Builtin.Range.rangeSize
  rw [if_pos (by omega)]
  by_cases h : n = 0
  · subst h; simp
  · have hp : 0 < n * c := Nat.mul_pos (Nat.pos_of_ne_zero h) hc
    rw [if_pos (by omega)]
    have e : ((n * c : Nat) : Int) - 0 - 1 = ((n * c - 1 : Nat) : Int) := by omega
    rw [e]
    have e2 : ((n * c - 1 : Nat) : Int) / (c : Int) = (((n * c - 1) / c : Nat) : Int) := by simp
    rw [e2]
    have e3 : (n * c - 1) / c = n - 1 := by
      obtain ⟨k, rfl⟩ : ∃ k, n = k + 1 := ⟨n - 1, by omega⟩
      have : (k + 1) * c - 1 = (c - 1) + k * c := by rw [Nat.add_mul, Nat.one_mul]; omega
      rw [this, Nat.add_mul_div_right _ _ hc, Nat.div_eq_of_lt (by omega)]; omega
    rw [e3]; omega
end
end Mine

/-! # M7 -/
namespace Mine

section
variable {prog : Program} {w : World} {A : Around} {E : Value → Shared → Prop} {s : Shared} {Q : Value → Shared → Prop}
theorem add_tx {x y : Str} {a b : List Nat} {t u : Tok} (hx : x = tx a) (hy : y = tx b) (hsz : a.length + b.length ≤ 1000000) (h : ∀ t' tk, Q (.str (tx (a ++ b)) t') { s with toks := tk }) :
    wpAny (model prog w) A (binaryOp .Add (.str x t) (.str y u)) Q E s := by
  subst hx hy
  refine add_str (fun t' tk => ?_) (by rw [tx_len, tx_len, sizeLine_eq]; omega)
  rw [tx_app]; exact h t' tk
theorem iadd_tx {x y : Str} {a b : List Nat} {t u : Tok} (hx : x = tx a) (hy : y = tx b) (hsz : a.length + b.length ≤ 1000000) (h : ∀ t' tk, Q (.str (tx (a ++ b)) t') { s with toks := tk }) :
    wpAny (model prog w) A (inplaceOp .Add (.str x t) (.str y u)) Q E s := by
  subst hx hy
  refine iadd_str (fun t' tk => ?_) (by rw [tx_len, tx_len, sizeLine_eq]; omega)
  rw [tx_app]; exact h t' tk
end

theorem rng_small {b c : Int} {n : Nat} (hn : Builtin.Range.rangeSize 0 b c = (n : Int)) (h0 : 0 ≤ b) (h1 : b ≤ 1000000000) (hn1 : n ≤ 1000000000) (hc : 0 < c ∧ c ≤ 1000 := by decide) : Builtin.Range.small 0 b c = true := by
  unfold Builtin.Range.small
  rw [hn]
  simp only [Builtin.Range.rangeFitsLong, Bool.and_eq_true, Bool.or_eq_true, decide_eq_true_eq, beq_iff_eq, if_pos hc.1]
  omega

/-- values that are these texts -/
def TxL (vs : List Value) (as : List (List Nat)) : Prop := vs.length = as.length ∧ ∀ (i : Nat) (a : List Nat), as[i]? = some a → ∃ t : Tok, vs[i]? = some (Value.str (tx a) t)

/-- the k-th element as it is laid -/
def elt (k : Nat) (a b : List Nat) : List Nat := if k % 2 = 0 then [60, 97, 32, 98, 61, 34] ++ a ++ [34, 47, 62] else [60, 99, 62] ++ b ++ [60, 47, 99, 62]
def laidL (as bs : List (List Nat)) : Nat → List Nat
  | 0 => []
  | n + 1 => laidL as bs n ++ elt n (as.getD n []) (bs.getD n [])
theorem elt_len (k : Nat) (a b : List Nat) (h1 : a.length ≤ 100000) (h2 : b.length ≤ 100000) : (elt k a b).length ≤ 100009 := by
  unfold elt; split <;> simp <;> omega
theorem laidL_len (as bs : List (List Nat)) (h1 : ∀ a ∈ as, a.length ≤ 100000) (h2 : ∀ b ∈ bs, b.length ≤ 100000) : ∀ n, (laidL as bs n).length ≤ n * 100009
  | 0 => by simp [laidL]
  | n + 1 => by
    have := laidL_len as bs h1 h2 n
    have e1 : (as.getD n []).length ≤ 100000 := by
      rw [List.getD_eq_getElem?_getD]
      cases h : as[n]? with
      | none => simp
      | some a => exact h1 a (List.mem_of_getElem? h)
    have e2 : (bs.getD n []).length ≤ 100000 := by
      rw [List.getD_eq_getElem?_getD]
      cases h : bs[n]? with
      | none => simp
      | some a => exact h2 a (List.mem_of_getElem? h)
    have := elt_len n _ _ e1 e2
    rw [laidL, List.length_append]; omega

section
variable {prog : Program} {w : World} {A : Around} {s : Shared} {p : Program} {loose : List Str} {mean : ExcName → Option Value} {mg mb : Str → Option Value} {Q E : Value → Shared → Prop}

theorem C_laid (X : (Mine.hd.heap_39 w.params).In s.heap) (T : Top p loose mean mg mb s.heap) {la lb : Addr} {vs us : List Value} {as bs : List (List Nat)}
    (hla : s.heap.IsList la vs.toArray) (ha : TxL vs as) (hlb : s.heap.IsList lb us.toArray) (hb : TxL us bs) (hab : as.length = bs.length) (h5 : as.length ≤ 5)
    (h1 : ∀ a ∈ as, a.length ≤ 100000) (h2 : ∀ b ∈ bs, b.length ≤ 100000)
    (ret : ∀ h' tk t', Kp s.heap h' → Q (.str (tx (laidL as bs as.length)) t') { s with heap := h', toks := tk }) :
    wpAny (model prog w) (AtC 390 490) (call (.ref 59) [.ref la, .ref lb]) Q E s := by
  refine wpAny_call ?_
  refine' enter_plain (binds := [(Str.ofString "attribs", Value.ref la), (Str.ofString "texts", Value.ref lb)]) X T ?ho ?hcd ?room ?hb ?hl ?h ?c1 ?c2 ?c3 ?c4
  case ho => k_is
  case hcd => k_is
  case room => exact Nat.le_of_ble_eq_true rfl
  case hb => exact BindsTo.of_eq rfl
  case hl => exact locs rfl
  case c1 => decide
  case c2 => exact rfl
  case c3 => exact rfl
  case c4 => exact rfl
  intro L h₁ tk htk F N
  have TR := topRead_of T
  refine wpAny_execs_cons (wpAny_Assign_Name (Constant_str (stN F N (fun h₂ F₂ N₂ => ?_) rfl rfl)) rfl)
  refine wpAny_execs_cons (For_invV s.heap rfl rfl ?_)
  refine Call_ (name_B F₂ X TR (by k_is) boot_range (by decide) ?_ rfl rfl (by decide))
  refine PyProof.Rows.callWith_type1 (spliced_more ?_)
  refine Call_ (name_B F₂ X TR (by k_is) boot_len (by decide) ?_ rfl rfl (by decide))
  refine PyProof.Rows.callWith_builtin1 (spliced_more (ld F₂ rfl (spliced_none ?_) rfl rfl (by decide)))
  refine len_list (F₂.lst hla) (by rw [List.size_toArray, ha.1]; omega) (spliced_none ?_)
  refine range1_rows F₂ N₂ ?_
  intro h₃ tk₃ t₁ u₁ v₁ hr F₃ N₃ _
  have hsz : (vs.toArray.size : Int) = ((as.length * 1 : Nat) : Int) := by rw [List.size_toArray, ha.1, Nat.mul_one]
  refine iter_rng (n := as.length) (fun i m _ => (∃ t, m (Str.ofString "text") = some (.str (tx (laidL as bs i)) t)) ∧ m (Str.ofString "attribs") = some (.ref la) ∧ m (Str.ofString "texts") = some (.ref lb)) rfl hr ?_ ?_ F₃ N₃ ⟨⟨_, rfl⟩, rfl, rfl⟩ ?_ ?_
  · exact rng_small (n := as.length) (by rw [hsz]; exact rng_size (by omega)) (by omega) (by omega) (by omega)
  · rw [hsz]; exact rng_size (by omega)
  · rintro i t m₁ news₁ h tk own hi hadr hoff ⟨⟨tt, hm1⟩, hm2, hm3⟩ F₁ N₁
    obtain ⟨ti, hvi⟩ := ha.2 i as[i] (by simp [hi])
    obtain ⟨tj, huj⟩ := hb.2 i (bs[i]'(hab ▸ hi)) (by simp [hab ▸ hi])
    have hmk : (fun y => if y = Str.ofString "k" then some (Value.int (0 + (i : Nat) * 1) t) else m₁ y) (Str.ofString "k") = some (Value.int (0 + (i : Nat) * 1) t) := rfl
    have hma : (fun y => if y = Str.ofString "k" then some (Value.int (0 + (i : Nat) * 1) t) else m₁ y) (Str.ofString "attribs") = some (.ref la) := hm2
    have hmb : (fun y => if y = Str.ofString "k" then some (Value.int (0 + (i : Nat) * 1) t) else m₁ y) (Str.ofString "texts") = some (.ref lb) := hm3
    have hmt : (fun y => if y = Str.ofString "k" then some (Value.int (0 + (i : Nat) * 1) t) else m₁ y) (Str.ofString "text") = some (.str (tx (laidL as bs i)) tt) := hm1
    have hk0 : (0 + (i : Nat) * 1 : Int) = (i : Int) := by omega
    have la1 := h1 as[i] (List.getElem_mem _)
    have lb1 := h2 (bs[i]'(hab ▸ hi)) (List.getElem_mem _)
    have ll := laidL_len as bs h1 h2 i
    refine wpAny_execs_cons (wpAny_AugAssign_Name (ldn F₁ hmt ?_ rfl rfl))
    refine Subscript_ (List_ (spliced_more (wpAny_BinOp (wpAny_BinOp (Constant_str (Subscript_ (ld F₁ hma (ld F₁ hmk ?_ rfl rfl (by decide)) rfl rfl (by decide))))))))
    refine item_litK (F₁.lst hla) (by omega) (by omega) (by rw [hk0]; exact hvi) ?_
    refine add_tx (by decide +kernel : Str.ofString "<a b=\"" = tx [60, 97, 32, 98, 61, 34]) rfl (by simp; omega) (fun t₁ k₁ => Constant_str ?_)
    refine add_tx rfl (by decide +kernel : Str.ofString "\"/>" = tx [34, 47, 62]) (by simp; omega) (fun t₂ k₂ => ?_)
    refine spliced_more (wpAny_BinOp (wpAny_BinOp (Constant_str (Subscript_ (ld F₁ hmb (ld F₁ hmk ?_ rfl rfl (by decide)) rfl rfl (by decide))))))
    refine item_litK (F₁.lst hlb) (by omega) (by omega) (by rw [hk0]; exact huj) ?_
    refine add_tx (by decide +kernel : Str.ofString "<c>" = tx [60, 99, 62]) rfl (by simp; omega) (fun t₃ k₃ => Constant_str ?_)
    refine add_tx rfl (by decide +kernel : Str.ofString "</c>" = tx [60, 47, 99, 62]) (by simp; omega) (fun t₄ k₄ => spliced_none ?_)
    refine newList_K F₁ N₁ (fun D h' F' N' hD => ?_) (Nat.le_of_ble_eq_true rfl)
    refine wpAny_BinOp (ld F' hmk (wpAny_Constant_int (mod_int' (by decide) ?_)) rfl rfl (by decide))
    have hel : [Value.str (tx ([60, 97, 32, 98, 61, 34] ++ as[i] ++ [34, 47, 62])) t₂, Value.str (tx ([60, 99, 62] ++ bs[i]'(hab ▸ hi) ++ [60, 47, 99, 62])) t₄][((0 + (i : Nat) * 1 : Int).fmod 2).toNat]? = some (Value.str (tx (elt i as[i] (bs[i]'(hab ▸ hi)))) (if i % 2 = 0 then t₂ else t₄)) := by
      rw [hk0]
      have e : ((i : Int).fmod 2).toNat = i % 2 := by rw [Int.fmod_eq_emod_of_nonneg _ (by omega)]; omega
      rw [e]
      rcases Nat.mod_two_eq_zero_or_one i with q | q <;> simp [elt, q]
    refine item_litK (News.isList N' (List.mem_cons_self ..)) ?_ ?_ hel ?_
    · rw [hk0, Int.fmod_eq_emod_of_nonneg _ (by omega)]; omega
    · rw [hk0, Int.fmod_eq_emod_of_nonneg _ (by omega)]; omega
    refine iadd_tx rfl rfl ?_ (fun t₅ k₅ => stN F' N' (fun h'' F'' N'' => wpAny_execs_nil ?_) rfl rfl)
    · have := elt_len i as[i] (bs[i]'(hab ▸ hi)) la1 lb1
      omega
    refine InvEndN.intro F'' N'' ?_ hadr (fun p hp => List.mem_cons_of_mem _ (List.mem_append_left _ hp)) (fun p hp => List.mem_cons_of_mem _ (List.mem_append_right _ hp))
    refine ⟨⟨t₅, ?_⟩, hm2, hm3⟩
    show some (Value.str (tx (laidL as bs i ++ elt i as[i] (bs[i]'(hab ▸ hi)))) t₅) = _
    rw [laidL]
    simp [hi, hab ▸ hi]
  · rintro m₁ news₁ h tk ⟨⟨tt, hm1⟩, _, _⟩ F₄ N₄
    refine wpAny_execs_cons (wpAny_Return_some (ld F₄ hm1 ?_ rfl rfl (by decide)))
    exact ret _ _ _ F₄.keep
end
end Mine

/-! # M8 -/
namespace Mine

section
variable {prog : Program} {w : World} {A : Around} {E : Value → Shared → Prop} {s : Shared} {h₀ : Heap} {L : Addr} {m : Str → Option Value} {news : List (Addr × Obj)}

theorem noI_list_add : fillsInplaceSlot (.type "list") "add" (Operator.Add == .Add) = pure false := by
  unfold fillsInplaceSlot
  show (typeLookup (.type "list") (dunderI "add") >>= fun fi => pure (fi.isSome && !isSeqSlot fi)) = pure false
  rw [F.slot_list_iadd.lookup]
  have : isSeqSlot (some (.builtin "list.__iadd__")) = true := by decide +kernel
  simp [this]
theorem seqI_list : seqSlot? (.type "list") (dunderI "add") = pure (some (.builtin "list.__iadd__")) := PySem.seqSlot_of F.slot_list_iadd.lookup (by decide +kernel)

theorem iadd_list {l b : Addr} {its its2 : Array Value} {n n2 : Nat} {Q : Value → Shared → Prop} (hl : s.heap.get? l = some (listOf its n)) (hb : s.heap.get? b = some (listOf its2 n2)) (hsz : its.size + its2.size ≤ 1000000)
    (h : Q (.ref l) { s with heap := s.heap.update l (Obj.mapSeq fun x => x ++ its2) }) : wpAny (model prog w) A (inplaceOp .Add (.ref l) (.ref b)) Q E s := by
  have ha : s.TypeIs (.ref l) "list" := ⟨_, hl, rfl⟩
  have hb' : s.TypeIs (.ref b) "list" := ⟨_, hb, rfl⟩
  unfold inplaceOp
  refine wpAny_holding ?_
  refine wpAny_bind (wpAny_typeOf ha (wpAny_bind (wpAny_of_eq noI_list_add ?_)))
  show wpAny _ A (if false = true then _ else _) Q E s
  rw [if_neg Bool.false_ne_true]
  refine wpAny_bind (wpAny_binaryOp1_none (nm := "add") ha hb' noFill_list_add ?_)
  refine wpAny_bind (wpAny_of_eq seqI_list ?_)
  refine wpAny_bind (wpAny_rule ?_)
  refine call_meets F.slot_list_iadd ha F.entry_list_iadd (F.args_list_iadd_2 _ _) (AutoSeq1.list___iadd___list_list_0 l its n b its2 n2 ?_ ?_ ?_) ⟨hl, hb, h⟩
  · have : Builtin.List.listTooLong (its.size + its2.size) = false := by
      unfold Builtin.List.listTooLong
      rw [sizeLine_eq]
      exact decide_eq_false (by omega)
    simp [this]
  · rw [sizeLine_eq]; omega
  · rw [sizeLine_eq]; omega

/-- the ledger's list grown by another list -/
theorem iadd_list_K {D b : Addr} {its its2 : Array Value} {n n2 : Nat} {pre post : List (Addr × Obj)} {Q : Value → Shared → Prop} (F : Fr h₀ L s.heap m) (N : News h₀ L s.heap (pre ++ (D, listOf its n) :: post))
    (h1 : ∀ p ∈ pre, p.1 ≠ D) (h2 : ∀ p ∈ post, p.1 ≠ D) (hb : s.heap.get? b = some (listOf its2 n2)) (hsz : its.size + its2.size ≤ 1000000)
    (h : ∀ h' n', Fr h₀ L h' m → News h₀ L h' (pre ++ (D, listOf (its ++ its2) n') :: post) → Q (.ref D) { s with heap := h' }) : wpAny (model prog w) A (inplaceOp .Add (.ref D) (.ref b)) Q E s := by
  have z := N (D, listOf its n) (List.mem_append.mpr (.inr (.head _)))
  refine iadd_list z.1 hb hsz ?_
  have hs : Heap.SameBut D s.heap (s.heap.update D (Obj.mapSeq fun x => x ++ its2)) := Heap.SameBut.update _ _ _
  exact h _ _ (F.change hs z.2.1 z.2.2) (news_set N h1 h2 hs (Heap.get?_update_self _ z.1 rfl))

end

section
variable {prog : Program} {w : World} {A : Around} {E : Value → Shared → Prop} {s : Shared} {env : Env}

theorem paired_all {G : Value → Value → Prop} {vs vs' : List Value} {ys : List Value} (hlen : vs'.length = vs.length) (hP : ∀ (j : Nat) (v : Value), vs'[j]? = some v → vs[j]? = some v) (h : Paired G (vs'.filter fun _ => true) ys) : Paired G vs ys := by
  have e : vs' = vs := by
    apply List.ext_getElem hlen
    intro i h1 h2
    have := hP i vs'[i] (by simp [h1])
    simp [h2] at this
    exact this.symm
  rw [e, List.filter_eq_self.mpr (fun _ _ => rfl)] at h
  exact h

/-- a comprehension without a test over a list -/
theorem comp_lst {elt iter : Expr} {x : Str} {px : Pos} {scope : Scope} {cl : List (Str × Addr)} {pos : Pos} {Q : Value → Shared → Prop} (G : Value → Value → Prop) (hh : A.handled = none)
    (hclos : closureFor scope env = pure cl) (hcell : ∀ y ∈ scope.names, y.2 ≠ .cell) (hkind : scope.kind = .function)
    (hnames : ∀ y ∈ scope.names, y.2 = .local → scope.names.lookup y.1 = some .local) (hx : scope.names.lookup x = some .local)
    (h : wpAny (model prog w) A (eval iter env) (fun xv s₁ => ∃ l vs, xv = .ref l ∧ s₁.heap.IsList l vs.toArray ∧ vs.length ≤ 1000000 ∧
      (∀ C v s₃ m₃ E', s₁.heap.objs.size ≤ C → v ∈ vs → s₃.heap.Ns C m₃ → m₃ x = some v → Kp s₁.heap s₃.heap → s₁.toks ≤ s₃.toks →
        wpAny (model prog w) A (eval elt (compEnvC scope cl C env)) (fun y s₄ => G v y ∧ Keeps s₃ s₄) E' s₃) ∧
      ∀ D h' tk n (ys : List Value), Kp s₁.heap h' → s₁.heap.get? D = none → h'.get? D = some (listOf ys.toArray n) → Paired G vs ys → Q (.ref D) { s₁ with heap := h', toks := tk }) E s)
    (hs : ∀ x, foldedSetIterable iter env x = pure x := by intro _; rfl) :
    wpAny (model prog w) A (eval (.ListComp elt [⟨.Name x px, iter, [], 0⟩] scope pos) env) Q E s := by
  refine wpAny_ListComp_free (fun _ => true) G hclos hcell hkind hnames hx (wpAny_mono h (fun xv s₁ h₁ => ?_) fun _ _ e => e) hs
  obtain ⟨l, vs, rfl, hl, hsz, helt, hQ⟩ := h₁
  have hlt : l < s₁.heap.objs.size := by obtain ⟨_, e, _⟩ := hl; exact Heap.lt_size e
  refine wpAny_pyIter_list hl ?_
  have up : ∀ b o, s₁.heap.get? b = some o → (s₁.heap.push { cls := .type "list_iterator", data := .fields #[.ref l, .int 0 0] }).get? b = some o := fun b o e => Heap.get?_push_of_some _ e
  have W := Walks.list (prog := prog) (w := w) hh s₁.heap.objs.size l (Nat.ne_of_lt hlt) vs.toArray
  rw [List.size_toArray] at W
  refine ⟨s₁.heap.objs.size, _, _, vs.length, _, _, rfl, W, by rw [sizeLine_eq]; omega, ⟨⟨_, Heap.get?_push_size _ rfl, rfl, rfl⟩, hl.push _⟩, ?_, ⟨?_, ?_⟩, ?_⟩
  · intro b hb
    show b < (s₁.heap.push _).objs.size
    rw [Heap.size_push]
    rcases List.mem_cons.mp hb with rfl | hb
    · exact Nat.lt_succ_self _
    · rw [List.mem_singleton.mp hb]; exact Nat.lt_succ_of_lt hlt
  · intro C i v s₃ m₃ E' _ _ _ _ _ _
    exact wpAny_pure ⟨rfl, s₃.heap, s₃.toks, rfl, fun _ _ e => e⟩
  · intro C i v s₃ m₃ E' hC hP _ hn hm hk htk
    have hC' : s₁.heap.objs.size ≤ C := by
      have : (s₁.heap.push { cls := .type "list_iterator", data := .fields #[.ref l, .int 0 0] }).objs.size ≤ C := hC
      rw [Heap.size_push] at this; omega
    refine helt C v s₃ m₃ E' hC' (List.mem_of_getElem? (by simpa using hP)) hn hm (fun b o e => hk b o ?_ (up b o e)) htk
    intro q
    rw [List.mem_singleton.mp q] at e
    exact Nat.lt_irrefl _ (Heap.lt_size e)
  · intro D h' tk ys vs' hD _ hpl hlen hP hF hk
    obtain ⟨n, hn⟩ := hpl
    have hk' : Kp s₁.heap h' := fun b o e => hk b o (fun q => by rw [List.mem_singleton.mp q] at e; exact Nat.lt_irrefl _ (Heap.lt_size e)) (up b o e)
    refine hQ D h' tk n ys.toList hk' ?_ (by simpa using hn) (paired_all hlen (fun j v e => by simpa using hP j v e) hF)
    cases q : s₁.heap.get? D with
    | none => rfl
    | some o => have := up D o q; rw [hD] at this; cases this
end
end Mine

/-! # M9 -/
namespace Mine

def fourN (c : Nat) : List Nat := [0, c / 65536, c / 256 % 256, c % 256]
def pickN (pl : List Nat) (c : Nat) : List Nat := pl.map fun k => (fourN c).getD k 0
def octN (pl l : List Nat) : List Nat := l.flatMap (pickN pl)
def byt (l : List Nat) : Array UInt8 := byteArr (l.map fun (n : Nat) => (n : Int))

theorem fourN_lt {c k : Nat} (hc : c < 1114112) : (fourN c).getD k 0 < 256 := by
  unfold fourN
  match k with
  | 0 => simp
  | 1 => simp; omega
  | 2 => simp; omega
  | 3 => simp; omega
  | k + 4 => simp
theorem octN_lt {pl l : List Nat} (hl : ∀ c ∈ l, c < 1114112) : ∀ n ∈ octN pl l, n < 256 := by
  intro n hn
  obtain ⟨c, hc, hn⟩ := List.mem_flatMap.mp hn
  obtain ⟨k, _, rfl⟩ := List.mem_map.mp hn
  exact fourN_lt (hl c hc)
theorem octN_len (pl : List Nat) (hp : pl.length = 4) : ∀ l : List Nat, (octN pl l).length = l.length * 4
  | [] => rfl
  | c :: l => by
    have := octN_len pl hp l
    show (pickN pl c ++ octN pl l).length = _
    rw [List.length_append, this, pickN, List.length_map, hp, List.length_cons]; omega
theorem octN_snoc (pl l : List Nat) (i c : Nat) (h : l[i]? = some c) : octN pl (l.take (i + 1)) = octN pl (l.take i) ++ pickN pl c := by
  rw [List.take_add_one, h]
  simp [octN]
theorem paired_ints {f : Int → Int} : ∀ {vs ys : List Value} {ns : List Int}, IntsAre vs ns → Paired (fun v y => ∃ n t u, v = .int n t ∧ y = .int (f n) u) vs ys → IntsAre ys (ns.map f)
  | [], _, _, .nil, .nil => .nil
  | _ :: _, _ :: _, _, .cons n t h, .cons ⟨n', t', u, e1, e2⟩ p => by
    cases e1
    subst e2
    exact .cons (f n) u (paired_ints h p)

def FourIs (c : Nat) (vs : List Value) : Prop := ∃ t0 t1 t2 t3 : Tok, vs = [.int 0 t0, .int ((c : Int).fdiv 65536) t1, .int (((c : Int).fdiv 256).fmod 256) t2, .int ((c : Int).fmod 256) t3]
theorem FourIs.len {c : Nat} {vs : List Value} (h : FourIs c vs) : vs.length = 4 := by obtain ⟨_, _, _, _, rfl⟩ := h; rfl
theorem fdiv_nat (a b : Nat) : (a : Int).fdiv (b : Int) = ((a / b : Nat) : Int) := by
  rw [Int.fdiv_eq_ediv_of_nonneg _ (by omega)]; simp
theorem fmod_nat (a b : Nat) : (a : Int).fmod (b : Int) = ((a % b : Nat) : Int) := by
  rw [Int.fmod_eq_emod_of_nonneg _ (by omega)]; simp
theorem FourIs.get {c : Nat} {vs : List Value} (h : FourIs c vs) : ∀ k : Nat, k < 4 → ∃ t : Tok, vs[k]? = some (Value.int ((((fourN c).getD k 0 : Nat)) : Int) t) := by
  obtain ⟨t0, t1, t2, t3, rfl⟩ := h
  have e1 := fdiv_nat c 65536
  have e2 := fdiv_nat c 256
  have e3 := fmod_nat (c / 256) 256
  have e4 := fmod_nat c 256
  intro k hk
  have : k = 0 ∨ k = 1 ∨ k = 2 ∨ k = 3 := by omega
  rcases this with rfl | rfl | rfl | rfl
  · exact ⟨t0, rfl⟩
  · exact ⟨t1, congrArg (fun z => some (Value.int z t1)) e1⟩
  · exact ⟨t2, congrArg (fun z => some (Value.int z t2)) ((congrArg (fun z : Int => z.fmod 256) e2).trans e3)⟩
  · exact ⟨t3, congrArg (fun z => some (Value.int z t3)) e4⟩

section
variable {prog : Program} {w : World} {A : Around} {s : Shared} {p : Program} {loose : List Str} {mean : ExcName → Option Value} {mg mb : Str → Option Value} {Q E : Value → Shared → Prop}

theorem C_octets (X : (Mine.hd.heap_39 w.params).In s.heap) (T : Top p loose mean mg mb s.heap) {l pl : List Nat} {t : Tok} {lp : Addr} {vs : List Value}
    (hlp : s.heap.IsList lp vs.toArray) (hv : IntsAre vs (pl.map fun (n : Nat) => (n : Int))) (hp4 : pl.length = 4) (hp : ∀ k ∈ pl, k < 4) (hl : ∀ c ∈ l, c < 1114112) (hlen : l.length ≤ 20000)
    (ret : ∀ h' tk t', Kp s.heap h' → Q (.bytes (byt (octN pl l)) t') { s with heap := h', toks := tk }) :
    wpAny (model prog w) (AtC 390 490) (call (.ref 64) [.str (tx l) t, .ref lp]) Q E s := by
  refine wpAny_call ?_
  refine' enter_cells (binds := [(Str.ofString "text", Value.str (tx l) t), (Str.ofString "places", Value.ref lp)]) X T ?ho ?hcd ?room ?hb ?hki ?hnd ?h ?c2 ?c3 ?c4
  case ho => k_is
  case hcd => k_is
  case room => exact Nat.le_of_ble_eq_true rfl
  case hb => exact BindsTo.of_eq rfl
  case hki => exact rfl
  case hnd => decide +kernel
  case c2 => exact rfl
  case c3 => exact rfl
  case c4 => exact rfl
  intro L h₁ tk cells htk F N hcl
  obtain ⟨oc, rfl, hoc⟩ := CellsAre.one hcl
  have TR := topRead_of T
  refine wpAny_execs_cons (wpAny_Assign_Name (List_ (spliced_none (newList_K F N (fun D h₂ F₂ N₂ hD => ?_) (Nat.le_of_ble_eq_true rfl)))) rfl)
  have hDc : D ≠ L + 1 := Ne.symm (Nat.ne_of_lt (hD _ (List.mem_cons_self ..)))
  refine storeX_L F₂ N₂ (fun h₃ F₃ N₃ => ?_) rfl rfl
  refine wpAny_execs_cons (For_invV s.heap rfl rfl ?_)
  refine nameX_L F₃ rfl ?_ rfl rfl (by decide)
  refine iter_txt (l := l) (fun i m nx => m (Str.ofString "octets") = some (.ref D) ∧ m (Str.ofString "places") = some (.ref lp) ∧
    ∃ ys n o v, nx = [(D, listOf ys.toArray n), (L + 1, o)] ∧ o.data = .cell v ∧ IntsAre ys ((octN pl (l.take i)).map fun (n : Nat) => (n : Int))) rfl F₃ N₃ ⟨rfl, rfl, [], 0, oc, _, rfl, hoc, .nil⟩ ?_ ?_
  · rintro i c tc m₁ news₁ h tk own hc hadr hoff ⟨hm1, hm2, ys, n, o, v, rfl, ho, hys⟩ F₁ N₁
    have hcl : c < 1114112 := hl c (List.mem_of_getElem? hc)
    have hsg : (fun y => if y = Str.ofString "sign" then some (Value.str ⟨#[c]⟩ tc) else m₁ y) (Str.ofString "sign") = some (Value.str ⟨#[c]⟩ tc) := rfl
    have ownc : ∀ p ∈ own, p.1 ≠ L + 1 := hoff.ne (by simp)
    have ownD : ∀ p ∈ own, p.1 ≠ D := hoff.ne (by simp)
    refine wpAny_execs_cons (wpAny_Assign_Name (List_ (wpAny_mono (Q := fun vs s₁ => FourIs c vs ∧ ∃ tk, s₁ = { s with heap := h, toks := tk }) ?_ ?_ (fun _ _ e => e))) rfl)
    · refine spliced_more (wpAny_Constant_int ?_)
      refine spliced_more (wpAny_BinOp (Call_ (nameX_B F₁ X TR (by k_is) (by decide +kernel : bootBuiltins "ord" = some (.builtin "ord")) (by decide) (PyProof.Rows.callWith_builtin1 (spliced_more (nameX_L F₁ hsg (spliced_none (P.ord_of_char (wpAny_Constant_int (floordiv_int (by decide) ?_ (Or.inl (PyProof.noPylong_small (by decide))))))) rfl rfl (by decide)))) rfl rfl (by decide))))
      refine spliced_more (wpAny_BinOp (wpAny_BinOp (Call_ (nameX_B F₁ X TR (by k_is) (by decide +kernel : bootBuiltins "ord" = some (.builtin "ord")) (by decide) (PyProof.Rows.callWith_builtin1 (spliced_more (nameX_L F₁ hsg (spliced_none (P.ord_of_char (wpAny_Constant_int (floordiv_int (by decide) (wpAny_Constant_int (mod_int' (by decide) ?_)) (Or.inl (PyProof.noPylong_small (by decide))))))) rfl rfl (by decide)))) rfl rfl (by decide)))))
      refine spliced_more (wpAny_BinOp (Call_ (nameX_B F₁ X TR (by k_is) (by decide +kernel : bootBuiltins "ord" = some (.builtin "ord")) (by decide) (PyProof.Rows.callWith_builtin1 (spliced_more (nameX_L F₁ hsg (spliced_none (P.ord_of_char (wpAny_Constant_int (mod_int' (by decide) (spliced_none ?_))))) rfl rfl (by decide)))) rfl rfl (by decide))))
      exact ⟨⟨_, _, _, _, rfl⟩, _, rfl⟩
    rintro four s₁ ⟨hfour, tk₁, rfl⟩
    have hf4 := FourIs.get hfour
    have hf5 := FourIs.len hfour
    clear hfour
    refine newList_K F₁ N₁ (fun D4 h₄ F₄ N₄ hD4 => ?_) (by rw [hf5]; exact Nat.le_of_ble_eq_true rfl)
    refine storeX_C F₄ N₄ rfl (.tail (p := (D4, _)) ?_ (.tail (p := (D, _)) hDc (.head ownc))) ho (fun h₅ o' F₅ N₅ ho' => ?_) rfl rfl
    · exact Ne.symm (Nat.ne_of_lt (hD4 (L + 1, o) (by simp)))
    have hD4D : D4 ≠ D := Ne.symm (Nat.ne_of_lt (hD4 (D, listOf ys.toArray n) (by simp)))
    replace N₅ : News s.heap L h₅ ((D4, listOf four.toArray 0) :: (D, listOf ys.toArray n) :: (L + 1, o') :: own) := N₅
    refine wpAny_execs_cons (wpAny_AugAssign_Name (wpAny_loadName_local rfl rfl F₅.ns (hm1 : _ = some (Value.ref D)) ?_))
    refine comp_lst (fun v y => ∃ n t u, v = .int n t ∧ y = .int ((((fourN c).getD n.toNat 0 : Nat)) : Int) u) rfl rfl (by decide) rfl (by decide) rfl ?_
    refine nameX_L F₅ (hm2 : _ = some (Value.ref lp)) ⟨lp, vs, rfl, F₅.lst hlp, ?_, ?_, ?_⟩ rfl rfl (by decide)
    · rw [hv.length, List.length_map]; omega
    · intro C v s₃ m₃ E' hC hmem hns hmx hkp htk
      obtain ⟨i', hi'⟩ := List.getElem?_of_mem hmem
      obtain ⟨k, tk', rfl, hk⟩ := hv.at i' v hi'
      obtain ⟨k', hk', rfl⟩ := List.mem_map.mp (List.mem_of_getElem? hk)
      have hk4 := hp k' hk'
      have hcell : s₃.heap.IsCell (L + 1) (some (.ref D4)) := ⟨o', hkp _ _ (N₅ (L + 1, o') (.tail _ (.tail _ (.head _)))).1, ho'⟩
      refine Subscript_ (wpAny_Name (wpAny_loadName_cell rfl rfl rfl hcell (wpAny_Name (wpAny_loadName_local rfl rfl hns hmx ?_) (by decide))) (by decide))
      have hl4 := News.isList (N₅.grown hkp) (List.mem_cons_self ..)
      obtain ⟨tq, hq⟩ := hf4 k' hk4
      exact item_litK hl4 (by omega) (by omega) (by rw [Int.toNat_natCast]; exact hq) ⟨⟨_, _, tq, rfl, by rw [Int.toNat_natCast]⟩, s₃.heap, s₃.toks, rfl, fun _ _ e => e⟩
    · intro D5 h₆ tk₆ n₅ ys₂ hkp hD5 hg5 hpr
      have hys2 : IntsAre ys₂ ((pl.map fun (n : Nat) => (n : Int)).map fun (n : Int) => ((((fourN c).getD n.toNat 0 : Nat)) : Int)) := paired_ints hv hpr
      have hys3 : IntsAre ys₂ ((pickN pl c).map fun (n : Nat) => (n : Int)) := by
        simpa [pickN, List.map_map, Function.comp_def] using hys2
      have F₆ := F₅.keeps hkp
      have N₆ := N₅.grown hkp
      refine iadd_list_K (pre := [(D4, _)]) (post := (L + 1, o') :: own) F₆ N₆ ?_ ?_ hg5 ?_ (fun h₇ n' F₇ N₇ => ?_)
      · intro p hp; rw [List.mem_singleton.mp hp]; exact hD4D
      · intro p hp
        rcases List.mem_cons.mp hp with rfl | hp
        · exact Ne.symm hDc
        · exact ownD p hp
      · rw [List.size_toArray, List.size_toArray, hys.length, hys3.length, List.length_map, List.length_map, octN_len pl hp4, pickN, List.length_map, hp4]
        have : (l.take i).length ≤ l.length := by simp; omega
        omega
      refine storeX_L F₇ N₇ (fun h₈ F₈ N₈ => wpAny_execs_nil ?_) rfl rfl
      refine InvEndN.intro (nx := [(D, listOf (ys ++ ys₂).toArray n'), (L + 1, o')]) F₈ N₈ ⟨rfl, hm2, ys ++ ys₂, n', o', _, rfl, ho', ?_⟩ rfl ?_ ?_
      · rw [octN_snoc pl l i c hc, List.map_append]
        exact hys.append hys3
      · intro p hp
        rcases List.mem_cons.mp hp with rfl | hp
        · refine List.mem_cons_of_mem _ ?_
          rw [← List.append_toArray]; exact List.mem_cons_self ..
        · rw [List.mem_singleton.mp hp]
          exact List.mem_cons_of_mem _ (List.mem_cons_of_mem _ (List.mem_cons_self ..))
      · intro p hp
        exact List.mem_cons_of_mem _ (List.mem_cons_of_mem _ (List.mem_cons_of_mem _ hp))
  · rintro m₁ news₁ h tk ⟨hm1, hm2, ys, n, o, v, rfl, ho, hys⟩ F₄ N₄
    rw [List.take_length] at hys
    refine wpAny_execs_cons (wpAny_Return_some (Call_ (nameX_B F₄ X TR (by k_is) (by decide +kernel : bootBuiltins "bytes" = some (.type "bytes")) (by decide) (PyProof.Rows.callWith_type1 (spliced_more (nameX_L F₄ hm1 (spliced_none ?_) rfl rfl (by decide)))) rfl rfl (by decide))))
    refine call_bytes_ints (News.isList N₄ (List.mem_cons_self ..)) hys ?_ ?_ rfl (fun h' t' k hk => ?_)
    · intro n hn
      obtain ⟨k, hk, rfl⟩ := List.mem_map.mp hn
      have := octN_lt hl k hk
      omega
    · rw [hys.length, List.length_map, octN_len pl hp4, sizeLine_eq]; omega
    · exact ret _ _ _ (fun b o e => hk b o (F₄.keep b o e))
end
end Mine

/-! # M10 -/
namespace Mine

abbrev baObj (b : Array UInt8) : Obj := { cls := .type "bytearray", data := .bytearray b }

theorem ba_slot_set : Slot "bytearray" "__setitem__" "bytearray.__setitem__" :=
  .of (owner := "bytearray") (n := "__setitem__") (by rw [typeLookup_type, builtinLookup_eq_fast]; kernel_rfl) (by decide +kernel) (by decide +kernel) (by decide +kernel)
    (by first | exact .inl (by decide +kernel) | exact .inr (by decide +kernel)) (by rw [isSubtype_type]; kernel_rfl)
theorem ba_entry_set : entryFor table "bytearray.__setitem__" = some Builtin.«bytearray.__setitem__» := entryFor_of_tree (by kernel_rfl)
theorem ba_args_set (a b c : Value) : argsOk "bytearray.__setitem__" ⟨[a, b, c], []⟩ := by unfold argsOk; kernel_rfl
theorem ba_no_bytes : typeLookup (.type "bytearray") "__bytes__" = pure none := by rw [typeLookup_type, builtinLookup_eq_fast]; kernel_rfl
theorem ba_no_index : typeLookup (.type "bytearray") "__index__" = pure none := by rw [typeLookup_type, builtinLookup_eq_fast]; kernel_rfl
theorem ba_buffer : typeLookup (.type "bytearray") "__buffer__" = pure (some (.builtin "bytearray.__buffer__")) := by rw [typeLookup_type, builtinLookup_eq_fast]; kernel_rfl
theorem ba_release : typeLookup (.type "bytearray") "__release_buffer__" = pure (some (.builtin "bytearray.__release_buffer__")) := by rw [typeLookup_type, builtinLookup_eq_fast]; kernel_rfl
theorem ba_sub : isSubtype (.type "bytearray") (.type "bytearray") = pure true := by rw [isSubtype_type]; kernel_rfl
theorem int_index : ∃ v, typeLookup (.type "int") "__index__" = pure (some v) := ⟨_, F.slot_int_index.lookup⟩
theorem ba_mro : mroOf (.type "bytearray") = pure [.type "bytearray", .type "object"] := by rw [mroOf_type]; kernel_rfl
theorem ba_lookup_new : typeLookup (.type "bytearray") "__new__" = pure (some (.builtin "bytearray.__new__")) := by rw [typeLookup_type, builtinLookup_eq_fast]; kernel_rfl
theorem ba_slot_init : Slot "bytearray" "__init__" "bytearray.__init__" :=
  .of (owner := "bytearray") (n := "__init__") (by rw [typeLookup_type, builtinLookup_eq_fast]; kernel_rfl) (by decide +kernel) (by decide +kernel) (by decide +kernel)
    (by first | exact .inl (by decide +kernel) | exact .inr (by decide +kernel)) (by rw [isSubtype_type]; kernel_rfl)
theorem ba_called : TypeCalled "bytearray" "bytearray.__new__" "bytearray.__init__" :=
  ⟨by decide +kernel, by decide +kernel, ⟨_, _, ba_mro⟩, madeBy_type ba_mro ba_lookup_new (by decide +kernel), by decide +kernel, by rw [isSubtype_type]; kernel_rfl, ba_slot_init⟩
theorem ba_typeCall (a : Value) : checkTypeCall "bytearray" ⟨[a], []⟩ = pure () := by kernel_rfl
theorem ba_newCall (a : Value) : checkBuiltinCall "bytearray.__new__" ⟨[.type "bytearray", a], []⟩ = pure () := by kernel_rfl
theorem ba_plain_new : plainId "bytearray.__new__" = true := by decide +kernel
theorem ba_entry_new : entryFor table "bytearray.__new__" = some Builtin.«list.__new__» := entryFor_alias (id' := "list.__new__") (by kernel_rfl) rfl (by decide +kernel) (by kernel_rfl)
theorem ba_entry_init : entryFor table "bytearray.__init__" = some Builtin.«bytearray.__init__» := entryFor_of_tree (by kernel_rfl)
theorem ba_args_init (a b : Value) : argsOk "bytearray.__init__" ⟨[a, b], []⟩ := by unfold argsOk; kernel_rfl
theorem ba_plain_init : plainId "bytearray.__init__" = true := by decide +kernel
theorem ba_bind (v : Value) : Builtin.Bytes.bindOptional "bytearray.__init__" "bytearray" ["source", "encoding", "errors"] [v] [] = pure [some v, none, none] := by kernel_rfl
end Mine

/-! # M11 -/
namespace Mine

section
variable {prog : Program} {w : World} {A : Around} {E : Value → Shared → Prop} {s : Shared}

theorem special_int {i : Int} {t : Tok} {Q : Option Value → Shared → Prop} (h : ∀ v, Q (some v) s) : wpAny (model prog w) A (specialOf (.int i t) "__index__") Q E s := by
  obtain ⟨v, hv⟩ := int_index
  exact wpAny_specialOf (typeIs_int s i t) hv (h v)

theorem fits_i {k : Int} (h0 : 0 ≤ k) (h1 : k ≤ 1000000) : (!Builtin.Bytes.fitsIndex k) = false := by
  unfold Builtin.Bytes.fitsIndex
  simp; omega
theorem baSub {k : Int} {t : Tok} {Q : Option Int → Shared → Prop} (h0 : 0 ≤ k) (h1 : k ≤ 1000000) (h : Q (some k) s) : wpAny (model prog w) A (Builtin.Bytes.subscript? (.int k t)) Q E s := by
  unfold Builtin.Bytes.subscript?
  refine wpAny_bind (special_int fun v => ?_)
  refine bm_if_false rfl ?_
  refine wpAny_bind (wpAny_of_eq (a := k) rfl ?_)
  exact bm_if_false (fits_i h0 h1) (wpAny_pure h)
theorem baVal {v : Int} {t : Tok} {Q : UInt8 → Shared → Prop} (h0 : 0 ≤ v) (hv : v < 256) (h : Q v.toNat.toUInt8 s) : wpAny (model prog w) A (Builtin.Bytes.byteValue (.int v t)) Q E s := by
  unfold Builtin.Bytes.byteValue
  refine wpAny_bind (wpAny_of_eq (a := v) rfl ?_)
  exact bm_if_false (by simp; omega) (wpAny_pure h)
theorem baPay {a : Addr} {b : Array UInt8} {Q : Array UInt8 → Shared → Prop} (ha : s.heap.get? a = some (baObj b)) (h : Q b s) : wpAny (model prog w) A (Builtin.Bytes.payload (.ref a)) Q E s := by
  unfold Builtin.Bytes.payload Builtin.Bytes.payload?
  refine wpAny_bind (wpAny_bind (wpAny_load ha ?_))
  exact wpAny_pure (wpAny_pure h)
theorem baWrite {a : Addr} {b : Array UInt8} {f : Array UInt8 → Array UInt8} {Q : Unit → Shared → Prop} (ha : s.heap.get? a = some (baObj b)) (hsz : (f b).size ≤ 1000000)
    (h : Q () { s with heap := s.heap.update a (Obj.mapBytearray f) }) : wpAny (model prog w) A (Builtin.Bytes.write (.ref a) f) Q E s := by
  show wpAny _ _ (updateBytearray a f) _ _ _
  unfold updateBytearray
  refine wpAny_bind (wpAny_load ha ?_)
  refine wpAny_bind (wpAny_update ha ?_)
  refine wpAny_lookBehind (o := baObj (f b)) (Heap.get?_update_self _ ha rfl) ?_ h
  show (if (f b).size > sizeLine then some "bytearray:memory" else none) = none
  rw [sizeLine_eq, if_neg (by omega)]

theorem setItem_ba {a : Addr} {b : Array UInt8} {k v : Int} {t u : Tok} {Q : Unit → Shared → Prop} (ha : s.heap.get? a = some (baObj b)) (k0 : 0 ≤ k) (hk : k < b.size) (hk2 : b.size ≤ 1000000) (hv0 : 0 ≤ v) (hv : v < 256)
    (h : Q () { s with heap := s.heap.update a (Obj.mapBytearray fun b => b.setIfInBounds k.toNat v.toNat.toUInt8) }) : wpAny (model prog w) A (setItem (.ref a) (.int k t) (.int v u)) Q E s := by
  have hT : s.TypeIs (.ref a) "bytearray" := ⟨_, ha, rfl⟩
  unfold setItem
  refine wpAny_holding ?_
  refine wpAny_bind (wpAny_sequenceKey hT (by decide) ?_)
  refine wpAny_bind (wpAny_callSpecial?_slot (name := Str.ofString "__setitem__") hT ba_slot_set (wpAny_call_entry ba_slot_set hT ba_entry_set ?_ (ba_args_set _ _ _)))
  show wpAny _ _ (Builtin.Bytes.subscript? (.int k t) >>= _) _ _ _
  refine wpAny_bind (baSub k0 (by omega) ?_)
  refine wpAny_bind (baVal hv0 hv ?_)
  refine wpAny_bind (baPay ha ?_)
  rw [StrLaws.seqIndex_nonneg k0 hk]
  refine wpAny_bind (baWrite ha (by simp; omega) ?_)
  exact wpAny_pure ⟨.none, rfl, wpAny_pure h⟩

theorem ba_own_rel {a : Addr} {b : Array UInt8} {Q : Bool → Shared → Prop} (ha : s.heap.get? a = some (baObj b)) (h : Q false s) : wpAny (model prog w) A (Builtin.Bytes.ownRelease (.ref a)) Q E s := by
  have hT : s.TypeIs (.ref a) "bytearray" := ⟨_, ha, rfl⟩
  unfold Builtin.Bytes.ownRelease Builtin.Bytes.slotIsOwn
  refine wpAny_bind (wpAny_bind (wpAny_specialOf hT ba_release ?_))
  refine bm_if_false (by decide +kernel) ?_
  have e : ("bytearray.__release_buffer__".dropRight ("__release_buffer__".length + 1)) = "bytearray" := by decide +kernel
  rw [e]
  exact wpAny_isInstance hT ba_sub (wpAny_pure h)

theorem buffer_ba {a : Addr} {b : Array UInt8} {id : String} {Q : Option (Array UInt8) → Shared → Prop} (ha : s.heap.get? a = some (baObj b)) (h : Q (some b) s) : wpAny (model prog w) A (Builtin.Bytes.buffer? id (.ref a) true) Q E s := by
  have hT : s.TypeIs (.ref a) "bytearray" := ⟨_, ha, rfl⟩
  unfold Builtin.Bytes.buffer?
  refine wpAny_bind (wpAny_specialOf hT ba_buffer ?_)
  have e : ("bytearray.__buffer__".dropRight ("__buffer__".length + 1)) = "bytearray" := by decide +kernel
  refine wpAny_bind ?_
  unfold Builtin.Bytes.slotIsOwn
  refine wpAny_bind (wpAny_specialOf hT ba_buffer ?_)
  refine bm_if_false (by decide +kernel) ?_
  rw [e]
  refine wpAny_isInstance hT ba_sub ?_
  refine bm_if_false rfl ?_
  refine wpAny_bind (wpAny_specialOf hT ba_buffer ?_)
  refine wpAny_bind (ba_own_rel ha ?_)
  refine bm_if_false rfl ?_
  exact wpAny_bind (baPay ha (wpAny_pure h))

theorem bytes_new_ba {a : Addr} {b : Array UInt8} {Q : Value → Shared → Prop} (ha : s.heap.get? a = some (baObj b)) (hsz : b.size ≤ 1000000)
    (hQ : ∀ t k, Q (.bytes b t) { s with toks := k }) :
    codeAny (model prog w) A (.call (.builtin "bytes.__new__") ⟨[.type "bytes", .ref a], []⟩) (wants Q E) s := by
  refine codeAny_of_tree ?_
  show wpAny _ A.in1 (do checkBuiltinCall "bytes.__new__" ⟨[.type "bytes", .ref a], []⟩; again (.builtin "bytes.__new__" ⟨[.type "bytes", .ref a], []⟩)) _ _ s
  refine wpAny_bind (wpAny_of_eq (F.bm_newCall _) (wpAny_pure ⟨plainId_quiet F.bm_plain _, codeAny_builtin F.bm_entry ?_⟩))
  rw [Around.under_plainId F.bm_plain _]
  have hT : s.TypeIs (.ref a) "bytearray" := ⟨_, ha, rfl⟩
  unfold Builtin.«bytes.__new__»
  refine wpAny_bind (wpAny_of_eq (a := true) rfl ?_)
  refine bm_if_false rfl ?_
  refine wpAny_bind (wpAny_of_eq F.bm_sub ?_)
  refine bm_if_false rfl ?_
  refine wpAny_bind (wpAny_of_eq (F.bm_bind _) ?_)
  refine wpAny_bind (wpAny_of_eq (a := ()) rfl ?_)
  refine wpAny_bind (wpAny_of_eq (a := ()) rfl ?_)
  refine bm_if_false rfl ?_
  refine wpAny_bind (wpAny_specialOf hT ba_no_bytes ?_)
  refine wpAny_bind (wpAny_bind ?_)
  show wpAny _ _ (load a >>= _) _ _ _
  refine wpAny_bind (wpAny_load ha ?_)
  refine wpAny_pure (wpAny_pure ?_)
  refine bm_if_false rfl ?_
  refine wpAny_bind (wpAny_specialOf hT ba_no_index ?_)
  refine bm_if_true rfl ?_
  first
    | show wpAny _ _ (Builtin.Bytes.buffer? "bytes.__new__" (.ref a) true >>= _) _ _ _
    | (refine wpAny_bind ?_; show wpAny _ _ (Builtin.Bytes.buffer? "bytes.__new__" (.ref a) true >>= _) _ _ _)
  refine wpAny_bind (buffer_ba ha ?_)
  refine wpAny_bind (wpAny_rule (wpAny_bind (wpAny_mkBytes ?_ (by rw [sizeLine_eq]; omega))))
  show wpAny _ _ (if (Value.type "bytes" == Value.type "bytes") = true then _ else _) _ _ _
  refine bm_if_true (by decide) ?_
  first
    | exact wpAny_pure (hQ _ _)
    | exact wpAny_bind (wpAny_pure (wpAny_pure (hQ _ _)))

theorem call_bytes_ba {a : Addr} {b : Array UInt8} {Q : Value → Shared → Prop} (ha : s.heap.get? a = some (baObj b)) (hsz : b.size ≤ 1000000)
    (hQ : ∀ t k, Q (.bytes b t) { s with toks := k }) : wpAny (model prog w) A (call (.type "bytes") [.ref a]) Q E s := by
  refine callType_codes (Q₁ := fun obj s₁ => s₁.TypeIs obj "bytes" ∧ Q obj s₁) F.bm_called (F.bm_typeCall _) F.entry_object_init
    (bytes_new_ba ha hsz fun t k => ⟨PySem.W.typeIs_bytes _ _ _, hQ t k⟩) fun obj s₁ h₁ => ?_
  exact ⟨h₁.1, F.args_object_init_2 obj _, object_init_meets F.bm_called.init.lookup F.bm_called.made (by decide) prog w A.in1 _ s₁ ⟨h₁.1, rfl, h₁.2⟩⟩

theorem owner_ba_new : ("bytearray.__new__".splitOn ".__new__").headD "" = "bytearray" := by simp +decide [String.splitOn, String.splitOnAux]

theorem code_ba_new (v : Value) {Q₁ : Value → Shared → Prop} (h : Q₁ (.ref s.heap.objs.size) { s with heap := s.heap.push (baObj #[]) }) :
    codeAny (model prog w) A (.call (.builtin "bytearray.__new__") ⟨[.type "bytearray", v], []⟩) (wants Q₁ E) s := by
  refine codeAny_of_tree ?_
  show wpAny _ A.in1 (do checkBuiltinCall "bytearray.__new__" ⟨[.type "bytearray", v], []⟩; again (.builtin "bytearray.__new__" ⟨[.type "bytearray", v], []⟩)) _ _ s
  refine wpAny_bind (wpAny_of_eq (ba_newCall v) (wpAny_pure ⟨plainId_quiet ba_plain_new _, codeAny_builtin_stack ba_entry_new rfl fun p st => ?_⟩))
  rw [Around.under_plainId ba_plain_new _]
  have hsub := ba_sub
  have hown := owner_ba_new
  obtain ⟨hp, g, d, tk, os⟩ := s
  simp only [hown]
  wp_walk
  exact h
end
end Mine

/-! # M12 -/
namespace Mine

section
variable {prog : Program} {w : World} {A : Around} {E : Value → Shared → Prop} {s : Shared}

theorem nIf_false {α : Type} {M : Model} {c : Bool} {a b : Sem α} {Q : α → Shared → Prop} (hc : c = false) (h : wpN M A b Q E s) : wpN M A (if c = true then a else b) Q E s := by
  subst hc; exact h
theorem nIf_true {α : Type} {M : Model} {c : Bool} {a b : Sem α} {Q : α → Shared → Prop} (hc : c = true) (h : wpN M A a Q E s) : wpN M A (if c = true then a else b) Q E s := by
  subst hc; exact h

theorem nIte_neg {α : Type} {M : Model} {c : Prop} [Decidable c] {a b : Sem α} {Q : α → Shared → Prop} (hc : ¬ c) (h : wpN M A b Q E s) : wpN M A (if c then a else b) Q E s := by
  rw [if_neg hc]; exact h
theorem nIte_pos {α : Type} {M : Model} {c : Prop} [Decidable c] {a b : Sem α} {Q : α → Shared → Prop} (hc : c) (h : wpN M A a Q E s) : wpN M A (if c then a else b) Q E s := by
  rw [if_pos hc]; exact h

theorem okB {id : String} {args : Args} (h : holders.contains id = false) : okCode (.builtin id args) = true := by
  show (!holders.contains id) = true
  rw [h]; rfl

theorem exportedN {v : Value} {Q : Bool → Shared → Prop} (h : Q false s) : wpN (model prog w) A (Builtin.Bytes.exported v) Q E s := by
  intro Γ p hΓ hc
  have hall : ∀ q ∈ (Γ.code, p) :: Γ.below, okCode q.1 = true := by
    intro q hq
    rcases List.mem_cons.mp hq with rfl | hq
    · exact hc.1
    · exact hc.2 q hq
  unfold Builtin.Bytes.exported
  rw [Sem.wp_bind']
  show Q (List.any ((Γ.code, p) :: Γ.below) _) s
  generalize (Γ.code, p) :: Γ.below = st at hall
  have e : ∀ q ∈ st, okCode q.1 = true → True := fun _ _ _ => trivial
  refine Eq.mpr ?_ h
  congr 1
  rw [List.any_eq_false]
  intro q hq
  have hk := hall q hq
  obtain ⟨c, pc⟩ := q
  replace hk : okCode c = true := hk
  have no : ∀ {id : String} {args : Args}, okCode (.builtin id args) = true → holders.contains id = false := fun {id args} h => by
    have h' : (!holders.contains id) = true := h
    simpa using h'
  split
  · rename_i heq; cases heq; exact absurd (no hk) (by decide +kernel)
  · rename_i heq; cases heq; exact absurd (no hk) (by decide +kernel)
  · rename_i heq; cases heq; exact absurd (no hk) (by decide +kernel)
  · rename_i heq; cases heq; exact absurd (no hk) (by decide +kernel)
  · rename_i heq; cases heq; exact absurd (no hk) (by decide +kernel)
  · rename_i heq
    cases heq
    intro hh
    have h1 := (Bool.and_eq_true_iff.mp hh).2
    have h2 : holders.contains _ = true := List.contains_iff_mem.mpr (List.mem_append.mpr (.inl (List.contains_iff_mem.mp h1)))
    rw [no hk] at h2
    cases h2
  · simp

theorem exportsOf_ba {a : Addr} {b : Array UInt8} {Q : Nat → Shared → Prop} (ha : s.heap.get? a = some (baObj b)) (h : Q 0 s) : wpAny (model prog w) A (Builtin.Bytes.exportsOf (.ref a)) Q E s := by
  unfold Builtin.Bytes.exportsOf
  exact wpAny_bind (wpAny_load ha (wpAny_pure h))

theorem codeN_builtin {id : String} {args : Args} {b : Builtin} {R : Result → Shared → Prop} (hb : entryFor table id = some b)
    (h : wpN (model prog w) (A.under (.builtin id args)) (b args)
      (fun fin s' => match fin with | .done f => R (.ok f) s' | .again c' => c'.quiet = true ∧ okCode c' = true ∧ codeN (model prog w) A c' R s') (fun e s' => R (.error e) s') s) :
    codeN (model prog w) A (.builtin id args) R s := by
  refine codeN_of_tree ?_
  show wpN _ _ (match entryFor table id with | some b => b args | none => unsupported ((withoutEnding? id "#data").getD id)) _ _ s
  rw [hb]; exact h

theorem codeN_init {a : Addr} {n : Int} {t : Tok} {Q : Value → Shared → Prop} (ha : s.heap.get? a = some (baObj #[])) (h0 : 0 ≤ n) (h1 : n ≤ 100000)
    (hQ : ∀ h', Heap.SameBut a s.heap h' → h'.get? a = some (baObj (Array.replicate n.toNat 0)) → Q .none { s with heap := h' }) :
    codeN (model prog w) A (.call (.builtin "bytearray.__init__") ⟨[.ref a, .int n t], []⟩) (wants Q E) s := by
  have hT : s.TypeIs (.ref a) "bytearray" := ⟨_, ha, rfl⟩
  refine codeN_of_tree ?_
  show wpN _ A.in1 (do checkBuiltinCall "bytearray.__init__" ⟨[.ref a, .int n t], []⟩; again (.builtin "bytearray.__init__" ⟨[.ref a, .int n t], []⟩)) _ _ s
  refine wpN_then (ba_slot_init.check _ _ _ _ _ _ _ _ hT (ba_args_init _ _) (wpN_pure ⟨plainId_quiet ba_plain_init _, okB (by decide +kernel), codeN_builtin ba_entry_init ?_⟩))
  rw [Around.under_plainId ba_plain_init _]
  show wpN _ _ (Builtin.Bytes.ownRelease (.ref a) >>= _) _ _ _
  refine wpN_then (ba_own_rel ha ?_)
  refine nIf_false rfl ?_
  refine wpN_then (wpAny_of_eq (ba_bind _) ?_)
  refine wpN_then (wpAny_of_eq (a := ()) rfl ?_)
  refine wpN_then (wpAny_of_eq (a := ()) rfl ?_)
  refine wpN_bind (Q := _) ?_
  show wpN _ _ (Builtin.Bytes.exported (.ref a) >>= _) _ _ _
  refine wpN_bind (exportedN ?_)
  show wpN _ _ (Builtin.Bytes.exportsOf (.ref a) >>= _) _ _ _
  refine wpN_then (exportsOf_ba ha ?_)
  refine wpN_pure ?_
  refine nIf_false rfl ?_
  refine wpN_then (baWrite ha (by simp) ?_)
  have ha2 : (s.heap.update a (Obj.mapBytearray fun _ => #[])).get? a = some (baObj #[]) := Heap.get?_update_self _ ha rfl
  refine wpN_then (wpAny_of_eq (a := none) rfl ?_)
  refine nIf_false rfl ?_
  refine wpN_then (wpAny_of_eq (a := ()) rfl ?_)
  refine wpN_then (special_int fun v => ?_)
  refine nIf_true rfl ?_
  refine wpN_then (wpAny_attempt (wpAny_of_eq (a := n) rfl ?_))
  refine nIf_false (fits_i h0 (by omega)) ?_
  refine nIte_neg (by omega) ?_
  refine nIf_false (by simp; omega) ?_
  refine nIf_false (by unfold Builtin.Bytes.tooLong; rw [sizeLine_eq]; exact decide_eq_false (by omega)) ?_
  refine wpN_then (wpAny_rule ?_)
  have sb : Heap.SameBut a s.heap (s.heap.update a (Obj.mapBytearray fun _ => #[])) := Heap.SameBut.update _ _ _
  by_cases hn : n > 0
  · refine nIte_pos hn (wpN_then (baWrite ha2 (by simp; omega) (wpN_pure ?_)))
    exact hQ _ (sb.trans (Heap.SameBut.update _ _ _)) (Heap.get?_update_self _ ha2 rfl)
  · refine nIte_neg hn (wpN_pure ?_)
    have e : n.toNat = 0 := by omega
    exact hQ _ sb (by rw [e]; exact ha2)

theorem callN_ba {n : Int} {t : Tok} {Q : Value → Shared → Prop} (h0 : 0 ≤ n) (h1 : n ≤ 100000)
    (hQ : ∀ h', Kp s.heap h' → h'.get? s.heap.objs.size = some (baObj (Array.replicate n.toNat 0)) → Q (.ref s.heap.objs.size) { s with heap := h' }) :
    wpN (model prog w) A (call (.type "bytearray") [.int n t]) Q E s := by
  refine wpN_call (codeN_of_tree ?_)
  show wpN _ _ (callAny (.type "bytearray") _) _ _ _
  refine wpN_pure ⟨Code.quiet_builtin _ (by decide +kernel), okB (by decide +kernel), codeN_builtin F.entry_type_call ?_⟩
  rw [Around.under_plain (weight_type_call_type "bytearray" [.int n t] []) rfl]
  unfold Builtin.«type.__call__»
  refine nIf_false (by decide) ?_
  refine nIf_false ba_called.canCreate ?_
  refine wpN_then (wpAny_of_eq (ba_typeCall _) ?_)
  refine wpN_then (wpAny_of_eq ba_mro ?_)
  refine nIf_false rfl ?_
  refine wpN_then (wpAny_of_eq ba_called.made ?_)
  refine wpN_then (wpAny_pure ?_)
  refine wpN_then (wpAny_holding (wpAny_call (code_ba_new _ ?_)))
  have hg : (s.heap.push (baObj #[])).get? s.heap.objs.size = some (baObj #[]) := Heap.get?_push_size _ rfl
  have hT : ({ s with heap := s.heap.push (baObj #[]) } : Shared).TypeIs (.ref s.heap.objs.size) "bytearray" := ⟨_, hg, rfl⟩
  refine wpN_then (wpAny_isInstance hT ba_sub ?_)
  refine nIf_false rfl ?_
  refine wpN_bind (wpN_holding ?_)
  simp only [callSpecial?]
  refine wpN_then (wpAny_specialOf hT ba_slot_init.lookup ?_)
  simp only [ba_slot_init.bind]
  refine wpN_holding (wpN_then (wpAny_pure (wpN_bind (wpN_call (codeN_init (a := s.heap.objs.size) hg h0 h1 ?_)))))
  intro h' hs hb
  refine wpN_pure ?_
  refine nIf_false rfl (wpN_pure ?_)
  refine hQ h' (fun b o e => ?_) hb
  exact hs.extBut b o (Nat.ne_of_lt (Heap.lt_size e)) (Heap.get?_push_of_some _ e)
end
end Mine

/-! # M13 -/
namespace Mine

section
variable {M : Model} {A : Around} {E : Value → Shared → Prop} {s : Shared} {env : Env}

/-- the state, told anew -/
theorem norm_tk {α : Type} {t : Sem α} {Q : α → Shared → Prop} {S s : Shared} {h : Heap} (e : ∃ tk, S = { s with heap := h, toks := tk }) (k : ∀ tk, wpAny M A t Q E { s with heap := h, toks := tk }) : wpAny M A t Q E S := by
  obtain ⟨tk, rfl⟩ := e
  exact k tk
theorem norm_tkN {α : Type} {t : Sem α} {Q : α → Shared → Prop} {S s : Shared} {h : Heap} (e : ∃ tk, S = { s with heap := h, toks := tk }) (k : ∀ tk, wpN M A t Q E { s with heap := h, toks := tk }) : wpN M A t Q E S := by
  obtain ⟨tk, rfl⟩ := e
  exact k tk

theorem nExecs_cons {st : Stmt} {rest : List Stmt} {Q : Flow → Shared → Prop}
    (h : wpN M A (exec st env) (fun f s' => match f with | .next => wpN M A (execs rest env) Q E s' | f => Q f s') E s) : wpN M A (execs (st :: rest) env) Q E s := by
  rw [execs_cons]
  refine wpN_bind (wpN_mono h (fun f s' h' => ?_) fun _ _ e => e)
  cases f <;> first | exact h' | exact wpN_pure h'
theorem nAssign_Name {x : Str} {pos' pos : Pos} {value : Expr} {Q : Flow → Shared → Prop}
    (h : wpN M A (eval value env) (fun v s₁ => wpAny M A (storeName env x v) (fun _ => Q .next) E s₁) E s)
    (hs : swapsWith value (some (.Name x pos')) pos.line env = pure false := by rfl) :
    wpN M A (exec (.Assign [.Name x pos'] value pos) env) Q E s := fun Γ p hΓ hc => by
  simp only [exec_Assign_Name env x pos' value pos hs, Sem.wp_bind', Sem.wp_cmd_standAt, Sem.wp_bindName, Sem.wp_pure']
  exact Sem.wp_mono M Γ _ (fun v _ s₁ h₁ => h₁ Γ _ hΓ) (fun _ _ _ h' => h') _ _ (h Γ _ hΓ hc)
theorem nReturn_some {e : Expr} {pos : Pos} {Q : Flow → Shared → Prop} (h : wpN M A (eval e env) (fun v => Q (.ret v)) E s) :
    wpN M A (exec (.Return (some e) pos) env) Q E s := fun Γ p hΓ hc => by
  simp only [exec_Return_some, Sem.wp_bind', Sem.wp_cmd_standAt, Sem.wp_pure']; exact h Γ _ hΓ hc
theorem nCompare1 {l r : Expr} {op : CmpOp} {pos : Pos} {Q : Value → Shared → Prop}
    (h : wpN M A (eval l env) (fun a s₁ => wpAny M A (eval r env) (fun b s₂ => wpAny M A (compareOp op a b) Q E s₂) E s₁) E s)
    (hm : behindInMarks op r = false := by with_unfolding_all rfl) :
    wpN M A (eval (.Compare l [op] [r] pos) env) Q E s := fun Γ p hΓ hc => by
  simp only [eval_Compare1, markedBehindIn_of_false hm, Sem.wp_bind', Sem.wp_holding, Sem.wp_cmd_standAt, Sem.wp_operate]
  exact Sem.wp_mono M Γ _ (fun a p₁ s₁ h₁ => Sem.wp_mono M Γ _ (fun b _ s₂ h₂ => h₂ Γ _ hΓ) (fun _ _ _ h' => h') _ _ (h₁ Γ p₁ hΓ))
    (fun _ _ _ h' => h') _ _ (h Γ p hΓ hc)
theorem nIfExp {test body orelse : Expr} {pos : Pos} {Q : Value → Shared → Prop}
    (h : wpAny M A (isTrue test env (eval test env)) (fun c s₂ => if c then wpN M A (eval body env) Q E s₂ else wpN M A (eval orelse env) Q E s₂) E s) :
    wpN M A (eval (.IfExp test body orelse pos) env) Q E s := by
  rw [eval_IfExp]
  refine wpN_then (wpAny_mono h (fun c s₂ h₂ => ?_) fun _ _ x => x)
  cases c <;> exact h₂
theorem nCall {func : Expr} {args : List Expr} {pos : Pos} {Q : Value → Shared → Prop}
    (h : wpAny M A (eval func env) (fun f s₁ => wpN M A (callWith pos f [] (backTo pos (starEach args env)) []) Q E s₁) E s)
    (he : eval (.Call func args [] pos) env = (do callWith pos (← eval func env) [] (backTo pos (starEach args env)) (backToKw pos (keywordEach [] env))) := by rfl) :
    wpN M A (eval (.Call func args [] pos) env) Q E s := by
  rw [he]; exact wpN_then h

theorem nSpliced_nil {pos : Pos} {Q : List Value → Shared → Prop} (h : Q [] s) : wpN M A (spliced (backTo pos (starEach [] env))) Q E s := wpN_of (spliced_none h)
theorem nSpliced_more {e : Expr} {rest : List Expr} {pos : Pos} {Q : List Value → Shared → Prop}
    (h : wpN M A (eval e env) (fun v s₁ => wpAny M A (spliced (backTo pos (starEach rest env))) (fun vs s₂ => Q (v :: vs) s₂) E s₁) E s)
    (he : starEach (e :: rest) env = (false, eval e env) :: starEach rest env := by rfl) : wpN M A (spliced (backTo pos (starEach (e :: rest) env))) Q E s := by
  rw [he]
  show wpN M A (spliced ((false, eval e env) :: backTo pos (starEach rest env))) Q E s
  rw [spliced]
  refine wpN_bind (wpN_mono h (fun v s₁ h₁ => ?_) fun _ _ x => x)
  refine wpN_then (wpAny_pure (wpN_then (wpAny_holding (wpAny_mono h₁ (fun vs s₂ h₂ => wpN_pure ?_) fun _ _ x => x))))
  exact h₂
theorem nEvalArgs {f : Value} {x : Sem Value} {rest : List (Bool × Sem Value)} {Q : Args → Shared → Prop}
    (h : wpN M A (spliced ((false, x) :: rest)) (fun vs s' => Q ⟨vs, []⟩ s') E s) : wpN M A (evalArgs f true ((false, x) :: rest) []) Q E s := by
  unfold evalArgs
  show wpN M A (spliced ((false, x) :: rest) >>= _) Q E s
  refine wpN_bind (wpN_mono h (fun vs s' h' => ?_) fun _ _ x => x)
  refine wpN_holding ?_
  exact wpN_then (wpAny_pure (wpN_then (wpAny_pure (wpN_pure h'))))

theorem nCallWith_type1 {pos : Pos} {T : String} {e : Expr} {rest : List Expr} {Q : Value → Shared → Prop}
    (h : wpN M A (spliced (backTo pos (starEach (e :: rest) env))) (fun vs s₁ => wpN M A (call (.type T) vs) Q E s₁) E s)
    (he : starEach (e :: rest) env = (false, eval e env) :: starEach rest env := by rfl)
    (hplain : (backTo pos (starEach rest env)).any (·.1) = false := by rfl) :
    wpN M A (callWith pos (.type T) [] (backTo pos (starEach (e :: rest) env)) []) Q E s := by
  rw [he] at h ⊢
  have hp : ((backTo pos ((false, eval e env) :: starEach rest env)).any (·.1)) = false := by show (false || (backTo pos (starEach rest env)).any (·.1)) = false; rw [hplain]; rfl
  have h' : wpN M A (spliced ((false, eval e env) :: backTo pos (starEach rest env))) (fun vs s₁ => wpN M A (call (.type T) vs) Q E s₁) E s := h
  have h'' := nEvalArgs (f := .type T) (Q := fun a s₁ => wpN M A (call (.type T) ([] ++ a.pos) a.kw) Q E s₁) (wpN_mono h' (fun vs s₁ q => q) (fun _ _ q => q))
  unfold callWith
  refine wpN_bind (wpN_holding (wpN_mono h'' (fun a s₁ h₁ => wpN_then (wpAny_standAt ?_)) fun _ _ x => x))
  simp only [hp, List.any_nil, Bool.or_false]
  refine wpN_then (wpAny_pure ?_)
  exact wpN_bind (wpN_mono h₁ (fun r s₂ hr => wpN_then (wpAny_holding (wpAny_point (wpN_pure hr)))) fun _ _ x => x)

theorem nCallWith_K {K : Frag} {f : Value} {pos : Pos} {e : Expr} {rest : List Expr} {Q : Value → Shared → Prop} (hk : keepIn K f = true)
    (h : wpN M A (spliced (backTo pos (starEach (e :: rest) env))) (fun vs s₁ => K.In s₁.heap ∧ wpN M A (call f vs) Q E s₁) E s)
    (he : starEach (e :: rest) env = (false, eval e env) :: starEach rest env := by rfl) (hplain : (backTo pos (starEach rest env)).any (·.1) = false := by rfl) :
    wpN M A (callWith pos f [] (backTo pos (starEach (e :: rest) env)) []) Q E s := by
  rw [he] at h ⊢
  have hp : ((backTo pos ((false, eval e env) :: starEach rest env)).any (·.1) || ([] : List (Option Str × Sem Value)).any (·.1.isNone)) = false := by show ((false || (backTo pos (starEach rest env)).any (·.1)) || false) = false; rw [hplain]; rfl
  have h' : wpN M A (spliced ((false, eval e env) :: backTo pos (starEach rest env))) (fun vs s₁ => K.In s₁.heap ∧ wpN M A (call f vs) Q E s₁) E s := h
  have h'' := nEvalArgs (f := f) (Q := fun a s₁ => K.In s₁.heap ∧ wpN M A (call f ([] ++ a.pos) a.kw) Q E s₁) (wpN_mono h' (fun vs s₁ q => q) (fun _ _ q => q))
  unfold callWith
  refine wpN_bind (wpN_holding (wpN_mono h'' (fun a s₁ h₁ => wpN_then (wpAny_standAt ?_)) fun _ _ x => x))
  obtain ⟨k, hk', L⟩ := keeps_K (M := M) hk _ h₁.1
  simp only [hp]
  refine wpN_then (L.here ?_)
  have tail : ∀ {t : Sem Value}, wpN M A t Q E s₁ → wpN M A (t >>= fun r => holding [r] point >>= fun _ => pure r) Q E s₁ :=
    fun ht => wpN_bind (wpN_mono ht (fun r s₂ hr => wpN_then (wpAny_holding (wpAny_point (wpN_pure hr)))) fun _ _ x => x)
  have marked (mk : Value) : wpN M A (callMarked mk f ([] ++ a.pos) a.kw) Q E s₁ := by
    unfold callMarked
    intro Γ p hΓ hc
    rw [Sem.wp_keep]; exact h₁.2 Γ p hΓ hc
  rcases hk' with rfl | rfl | rfl <;> dsimp only <;> first | exact tail h₁.2 | (split <;> first | exact tail h₁.2 | exact tail (marked _))
end
end Mine

/-! # M14 -/
namespace Mine

def srcP (wd p : Nat) : Nat := p / wd * wd + (wd - 1 - p % wd)
def swapL (wd : Nat) (bs : List UInt8) : List UInt8 := (List.range bs.length).map fun p => bs.getD (srcP wd p) 0
def SwOk (wd : Nat) (bs : List UInt8) (i j : Nat) (arr : Array UInt8) : Prop :=
  arr.size = bs.length ∧ ∀ p, p < bs.length → (p / wd < i ∨ (p / wd = i ∧ wd - 1 - p % wd < j)) → arr[p]? = some (bs.getD (srcP wd p) 0)

theorem SwOk.start (wd : Nat) (bs : List UInt8) : SwOk wd bs 0 0 (Array.replicate bs.length 0) := ⟨by simp, fun p _ h => by rcases h with h | h; exact absurd h (Nat.not_lt_zero _); exact absurd h.2 (Nat.not_lt_zero _)⟩
theorem SwOk.inner {wd : Nat} {bs : List UInt8} {i j : Nat} {arr : Array UInt8} (h : SwOk wd bs i j arr) (hj : j < wd) :
    SwOk wd bs i (j + 1) (arr.setIfInBounds (i * wd + wd - 1 - j) (bs.getD (i * wd + j) 0)) := by
  refine ⟨by simp [h.1], fun p hp hd => ?_⟩
  have hq : (i * wd + wd - 1 - j) / wd = i ∧ (i * wd + wd - 1 - j) % wd = wd - 1 - j := by
    have e : i * wd + wd - 1 - j = (wd - 1 - j) + i * wd := by omega
    rw [e]
    refine ⟨?_, ?_⟩
    · rw [Nat.add_mul_div_right _ _ (by omega), Nat.div_eq_of_lt (by omega)]; omega
    · rw [Nat.add_mul_mod_self_right, Nat.mod_eq_of_lt (by omega)]
  by_cases e : p = i * wd + wd - 1 - j
  · subst e
    have hs : srcP wd (i * wd + wd - 1 - j) = i * wd + j := by
      unfold srcP
      rw [hq.1, hq.2]; omega
    rw [hs, Array.getElem?_setIfInBounds_self_of_lt (by rw [h.1]; omega)]
  · rw [Array.getElem?_setIfInBounds_ne (by omega)]
    refine h.2 p hp ?_
    rcases hd with hd | ⟨hd1, hd2⟩
    · exact .inl hd
    · by_cases e2 : wd - 1 - p % wd = j
      · exfalso
        apply e
        have := Nat.div_add_mod p wd
        have hm : p % wd < wd := Nat.mod_lt _ (by omega)
        rw [hd1, Nat.mul_comm] at this
        omega
      · exact .inr ⟨hd1, by omega⟩
theorem SwOk.outer {wd : Nat} {bs : List UInt8} {i : Nat} {arr : Array UInt8} (h : SwOk wd bs i wd arr) (hw : 0 < wd) : SwOk wd bs (i + 1) 0 arr :=
  ⟨h.1, fun p hp hd => h.2 p hp (by
    have hm : p % wd < wd := Nat.mod_lt _ hw
    omega)⟩
theorem SwOk.done {wd n : Nat} {bs : List UInt8} {arr : Array UInt8} (h : SwOk wd bs n 0 arr) (hw : 0 < wd) (hn : bs.length = n * wd) : arr = (swapL wd bs).toArray := by
  apply Array.ext
  · rw [h.1]; simp [swapL]
  · intro p h1 h2
    have hp : p < bs.length := by rw [← h.1]; exact h1
    have := h.2 p hp (.inl ((Nat.div_lt_iff_lt_mul hw).mpr (by omega)))
    rw [Array.getElem?_eq_getElem h1] at this
    have e := Option.some.inj this
    rw [e]
    simp [swapL]

section
variable {prog : Program} {w : World} {A : Around} {s : Shared} {p : Program} {loose : List Str} {mean : ExcName → Option Value} {mg mb : Str → Option Value} {Q E : Value → Shared → Prop}

theorem N_swap (X : (Mine.hd.heap_39 w.params).In s.heap) (T : Top p loose mean mg mb s.heap) {bs : List UInt8} {n wd : Nat} {W : Int} {t u : Tok}
    (hW : W = (wd : Int)) (hw : 0 < wd) (hw2 : wd ≤ 8) (hn : bs.length = n * wd) (hlen : bs.length ≤ 100000)
    (ret : ∀ h' tk t', Kp s.heap h' → Q (.bytes (swapL wd bs).toArray t') { s with heap := h', toks := tk }) :
    wpN (model prog w) (AtC 380 480) (call (.ref 21) [.bytes bs.toArray t, .int W u]) Q E s := by
  refine wpN_call ?_
  refine' enter_plainN (binds := [(Str.ofString "data", Value.bytes bs.toArray t), (Str.ofString "width", Value.int W u)]) X T ?ho ?hcd ?room ?hb ?hl ?h ?c1 ?c2 ?c3 ?c4
  case ho => k_is
  case hcd => k_is
  case room => exact Nat.le_of_ble_eq_true rfl
  case hb => exact BindsTo.of_eq rfl
  case hl => exact locs rfl
  case c1 => decide
  case c2 => exact rfl
  case c3 => exact rfl
  case c4 => exact rfl
  intro L h₁ tk htk F N
  have TR := topRead_of T
  obtain ⟨B, hB⟩ : ∃ B : Int, B = (bs.length : Int) := ⟨_, rfl⟩
  have hB2 : ((bs.toArray.size : Nat) : Int) = B := by rw [hB, List.size_toArray]
  refine nExecs_cons (nAssign_Name (nCall (name_B F X TR (by k_is) (by decide +kernel : bootBuiltins "bytearray" = some (.type "bytearray")) (by decide) ?_ rfl rfl (by decide))) rfl)
  refine nCallWith_type1 (wpN_of (spliced_more (Call_ (name_B F X TR (by k_is) boot_len (by decide) (PyProof.Rows.callWith_builtin1 (spliced_more (ld F rfl (spliced_none (len_bytes (by rw [List.size_toArray]; omega) ?_)) rfl rfl (by decide)))) rfl rfl (by decide)))))
  rw [hB2]
  refine spliced_none (callN_ba (by omega) (by omega) ?_)
  intro h₂ hk₂ hg₂
  replace hk₂ : Kp h₁ h₂ := hk₂
  replace hg₂ : h₂.get? h₁.objs.size = some (baObj (Array.replicate B.toNat 0)) := hg₂
  have F₂ := F.keeps hk₂
  have N₂ : News s.heap L h₂ [(h₁.objs.size, baObj (Array.replicate B.toNat 0))] := by
    intro q hq
    rw [List.mem_singleton.mp hq]
    exact ⟨hg₂, Ne.symm (Nat.ne_of_lt F.ns.lt), next_is_new F⟩
  refine stN F₂ N₂ (fun h₃ F₃ N₃ => ?_) rfl rfl
  clear hg₂ N₂ F₂ hk₂
  show wpN _ _ (execs _ _) _ _ _
  refine wpN_of (norm_tk (s := s) (h := h₃) ⟨_, rfl⟩ (fun tk₃' => ?_))
  have hS := Ne.symm (Nat.ne_of_lt F.ns.lt)
  generalize h₁.objs.size = S at F₃ N₃ hS
  clear N F
  refine wpAny_execs_cons (For_invV s.heap rfl rfl ?_)
  refine Call_ (name_B F₃ X TR (by k_is) boot_range (by decide) ?_ rfl rfl (by decide))
  refine PyProof.Rows.callWith_type1 (spliced_more (wpAny_Constant_int ?_))
  refine spliced_more (Call_ (name_B F₃ X TR (by k_is) boot_len (by decide) (PyProof.Rows.callWith_builtin1 (spliced_more (ld F₃ rfl (spliced_none (len_bytes (by rw [List.size_toArray]; omega) ?_)) rfl rfl (by decide)))) rfl rfl (by decide)))
  rw [hB2]
  refine spliced_more (ld F₃ rfl (spliced_none ?_) rfl rfl (by decide))
  refine range3_rows F₃ N₃ (by omega) ?_ (Or.inl (PyProof.noPylong_small (by omega)))
  intro h₄ tk₄ t₁ u₁ v₁ hr F₄ N₄ _
  refine norm_tk (s := s) (h := h₄) ⟨_, rfl⟩ (fun tk₄' => ?_)
  have hsz : Builtin.Range.rangeSize 0 B W = (n : Int) := by rw [hB, hW, hn]; exact rng_size hw
  have hnle : n ≤ 100000 := by
    have : n * 1 ≤ n * wd := Nat.mul_le_mul_left _ hw
    omega
  have hB3 : B.toNat = bs.length := by omega
  refine iter_rng (n := n) (fun i m nx => m (Str.ofString "data") = some (Value.bytes bs.toArray t) ∧ m (Str.ofString "width") = some (Value.int W u) ∧ m (Str.ofString "swapped_data") = some (.ref S) ∧ ∃ arr, nx = [(S, baObj arr)] ∧ SwOk wd bs i 0 arr) rfl hr
    (rng_small hsz (by omega) (by omega) (by omega) ⟨by omega, by omega⟩) hsz F₄ N₄ ⟨rfl, rfl, rfl, _, rfl, by rw [hB3]; exact SwOk.start wd bs⟩ ?_ ?_
  · rintro i ti m₁ news₁ h tk own hi hadr hoff ⟨hm1, hm2, hm3, arr, rfl, hok⟩ F₁ N₁
    have ownS : ∀ p ∈ own, p.1 ≠ S := hoff.ne (by simp)
    have hib : i * wd + wd ≤ bs.length := by
      have : (i + 1) * wd ≤ n * wd := Nat.mul_le_mul_right _ hi
      rw [hn]; rw [Nat.add_mul, Nat.one_mul] at this; exact this
    obtain ⟨I, hI⟩ : ∃ I : Int, I = 0 + (i : Nat) * W := ⟨_, rfl⟩
    rw [← hI] at F₁
    have hI2 : I = ((i * wd : Nat) : Int) := by rw [hI, hW]; simp
    refine wpAny_execs_cons (For_invV s.heap rfl rfl ?_)
    refine Call_ (name_B F₁ X TR (by k_is) boot_range (by decide) ?_ rfl rfl (by decide))
    refine PyProof.Rows.callWith_type1 (spliced_more (ld F₁ hm2 (spliced_none ?_) rfl rfl (by decide)))
    refine range1_rows F₁ N₁ ?_
    intro h₅ tk₅ t₂ u₂ v₂ hr₂ F₅ N₅ _
    refine norm_tk (s := s) (h := h₅) ⟨_, rfl⟩ (fun tk₅' => ?_)
    have hsz2 : Builtin.Range.rangeSize 0 W 1 = (wd : Int) := by
      have := rng_size (n := wd) (c := 1) (by omega)
      rw [Nat.mul_one] at this; rw [hW]; exact this
    refine iter_rng (n := wd) (news := (S, baObj arr) :: own) (fun j m nx => m (Str.ofString "data") = some (Value.bytes bs.toArray t) ∧ m (Str.ofString "width") = some (Value.int W u) ∧ m (Str.ofString "swapped_data") = some (.ref S) ∧ m (Str.ofString "i") = some (Value.int I ti) ∧ ∃ arr, nx = (S, baObj arr) :: own ∧ SwOk wd bs i j arr) rfl hr₂
      (rng_small hsz2 (by omega) (by omega) (by omega)) hsz2 F₅ N₅ ⟨hm1, hm2, hm3, rfl, _, rfl, hok⟩ ?_ ?_
    · rintro j tj m₂ news₂ h₆ tk₆ own₂ hj hadr₂ hoff₂ ⟨hm1, hm2, hm3, hmi, arr₂, rfl, hok₂⟩ F₆ N₆
      obtain ⟨J, hJ⟩ : ∃ J : Int, J = 0 + (j : Nat) * 1 := ⟨_, rfl⟩
      rw [← hJ] at F₆
      have hJ2 : J = (j : Int) := by rw [hJ]; omega
      have own2S : ∀ p ∈ own₂, p.1 ≠ S := hoff₂.ne (by simp)
      have hmj : (fun y => if y = Str.ofString "j" then some (Value.int J tj) else m₂ y) (Str.ofString "j") = some (Value.int J tj) := rfl
      refine wpAny_execs_cons (wpAny_Assign_Subscript (wpAny_mono (Q := fun v s' => ∃ tv tk, v = .int ((bs.getD (i * wd + j) 0).toNat : Int) tv ∧ s' = { s with heap := h₆, toks := tk }) ?_ ?_ (fun _ _ e => e)) rfl)
      · refine Subscript_ (ld F₆ hm1 (wpAny_BinOp (ld F₆ hmi (ld F₆ hmj (add_int ?_) rfl rfl (by decide)) rfl rfl (by decide))) rfl rfl (by decide))
        have hIJ : (I + J).toNat = i * wd + j := by omega
        refine KBy.item_N (x := bs) (by omega) (by omega) (by omega) ?_
        rw [hIJ]
        exact ⟨_, _, rfl, rfl⟩
      rintro _ _ ⟨tv, tk₇, rfl, rfl⟩
      refine ld F₆ hm3 ?_ rfl rfl (by decide)
      refine wpAny_BinOp (wpAny_BinOp (wpAny_BinOp (ld F₆ hmi (ld F₆ hm2 (add_int (wpAny_Constant_int (sub_int (ld F₆ hmj (sub_int ?_) rfl rfl (by decide))))) rfl rfl (by decide)) rfl rfl (by decide))))
      have hz := N₆ (S, baObj arr₂) (List.mem_cons_self ..)
      have hst : (I + W - 1 - J).toNat = i * wd + wd - 1 - j := by omega
      have hvv : (bs.getD (i * wd + j) 0).toNat < 256 := (bs.getD (i * wd + j) 0).toNat_lt
      refine setItem_ba hz.1 (by omega) (by rw [hok₂.1]; omega) (by rw [hok₂.1]; omega) (by omega) (by omega) ?_
      have hs : Heap.SameBut S h₆ (h₆.update S (Obj.mapBytearray fun b => b.setIfInBounds (I + W - 1 - J).toNat ((bs.getD (i * wd + j) 0).toNat : Int).toNat.toUInt8)) := Heap.SameBut.update _ _ _
      have hu : ((bs.getD (i * wd + j) 0).toNat : Int).toNat.toUInt8 = bs.getD (i * wd + j) 0 := by
        rw [Int.toNat_natCast]; simp
      have hg : (h₆.update S (Obj.mapBytearray fun b => b.setIfInBounds (I + W - 1 - J).toNat ((bs.getD (i * wd + j) 0).toNat : Int).toNat.toUInt8)).get? S = some (baObj (arr₂.setIfInBounds (I + W - 1 - J).toNat ((bs.getD (i * wd + j) 0).toNat : Int).toNat.toUInt8)) :=
        Heap.get?_update_self (Obj.mapBytearray fun b => b.setIfInBounds (I + W - 1 - J).toNat ((bs.getD (i * wd + j) 0).toNat : Int).toNat.toUInt8) hz.1 rfl
      have e2 : arr₂.setIfInBounds (I + W - 1 - J).toNat ((bs.getD (i * wd + j) 0).toNat : Int).toNat.toUInt8 = arr₂.setIfInBounds (i * wd + wd - 1 - j) (bs.getD (i * wd + j) 0) := by rw [hst, hu]
      rw [e2] at hg
      have F₇ := F₆.change hs hz.2.1 hz.2.2
      have N₇ := news_set (pre := []) (post := own ++ own₂) N₆ (fun _ hp => (nomatch hp)) (fun p hp => (List.mem_append.mp hp).elim (ownS p) (own2S p)) hs hg
      refine wpAny_execs_nil ?_
      refine InvEndN.intro (nx := (S, baObj (arr₂.setIfInBounds (i * wd + wd - 1 - j) (bs.getD (i * wd + j) 0))) :: own) F₇ N₇ ⟨hm1, hm2, hm3, hmi, _, rfl, hok₂.inner hj⟩ rfl ?_ ?_
      · intro p hp
        rcases List.mem_cons.mp hp with rfl | hp
        · exact List.mem_cons_self ..
        · exact List.mem_cons_of_mem _ (List.mem_append_left _ hp)
      · intro p hp
        exact List.mem_cons_of_mem _ (List.mem_append_right _ hp)
    · rintro m₂ news₂ h₆ tk₆ ⟨hm1, hm2, hm3, _, arr₂, rfl, hok₂⟩ F₆ N₆
      refine wpAny_execs_nil ?_
      exact InvEndN.intro F₆ N₆ ⟨hm1, hm2, hm3, arr₂, rfl, hok₂.outer hw⟩ rfl (fun p hp => by rw [List.mem_singleton.mp hp]; exact List.mem_cons_self ..) (fun p hp => List.mem_cons_of_mem _ hp)
  · rintro m₁ news₁ h tk ⟨_, _, hm3, arr, rfl, hok⟩ F₅ N₅
    have e := hok.done hw hn
    subst e
    refine wpAny_execs_cons (wpAny_Return_some (Call_ (name_B F₅ X TR (by k_is) (by decide +kernel : bootBuiltins "bytes" = some (.type "bytes")) (by decide) (PyProof.Rows.callWith_type1 (spliced_more (ld F₅ hm3 (spliced_none ?_) rfl rfl (by decide)))) rfl rfl (by decide))))
    refine call_bytes_ba (N₅ _ (List.mem_cons_self ..)).1 (by simp [swapL]; omega) (fun t' k => ?_)
    exact ret _ _ _ F₅.keep
end
end Mine

/-! # M15 -/
namespace Mine

def turn1 (wd : Nat) (bs : List UInt8) : List UInt8 := if wd = 0 then bs else swapL wd bs
theorem swapL_len (wd : Nat) (bs : List UInt8) : (swapL wd bs).length = bs.length := by simp [swapL]
theorem turn1_len (wd : Nat) (bs : List UInt8) : (turn1 wd bs).length = bs.length := by unfold turn1; split; rfl; exact swapL_len _ _
def Div (wd len : Nat) : Prop := wd ≤ 8 ∧ (wd = 0 ∨ ∃ n, len = n * wd)

section
variable {prog : Program} {w : World} {A : Around} {s : Shared} {p : Program} {loose : List Str} {mean : ExcName → Option Value} {mg mb : Str → Option Value} {Q E : Value → Shared → Prop}

theorem N_turned (X : (Mine.hd.heap_39 w.params).In s.heap) (T : Top p loose mean mg mb s.heap) {bs : List UInt8} {a b : Nat} {Wa Wb : Int} {t u v : Tok}
    (hWa : Wa = (a : Int)) (hWb : Wb = (b : Int)) (ha : Div a bs.length) (hb : Div b bs.length) (hlen : bs.length ≤ 100000)
    (ret : ∀ h' tk t', Kp s.heap h' → Q (.bytes (turn1 b (turn1 a bs)).toArray t') { s with heap := h', toks := tk }) :
    wpN (model prog w) (AtC 379 470) (call (.ref 71) [.bytes bs.toArray t, .int Wa u, .int Wb v]) Q E s := by
  refine wpN_call ?_
  refine' enter_plainN (binds := [(Str.ofString "octets", Value.bytes bs.toArray t), (Str.ofString "first", Value.int Wa u), (Str.ofString "second", Value.int Wb v)]) X T ?ho ?hcd ?room ?hb ?hl ?h ?c1 ?c2 ?c3 ?c4
  case ho => k_is
  case hcd => k_is
  case room => exact Nat.le_of_ble_eq_true rfl
  case hb => exact BindsTo.of_eq rfl
  case hl => exact locs rfl
  case c1 => decide
  case c2 => exact rfl
  case c3 => exact rfl
  case c4 => exact rfl
  intro L h₁ tk htk F N
  have TR := topRead_of T
  refine nExecs_cons (nAssign_Name (wpN_mono (Q := fun r s' => ∃ h' tk t', r = .bytes (turn1 a bs).toArray t' ∧ s' = { s with heap := h', toks := tk } ∧ Kp h₁ h') ?_ ?_ (fun _ _ e => e)) rfl)
  · refine nIfExp (wpAny_isTrue_Compare1 (ld F rfl (wpAny_Constant_int (gt_int (wpAny_truthy_bool ?_))) rfl rfl (by decide)) rfl)
    by_cases h0 : a = 0
    · have e : decide ((0 : Int) < Wa) = false := decide_eq_false (by omega)
      rw [e]
      refine wpN_of (ld F rfl ?_ rfl rfl (by decide))
      exact ⟨_, _, t, by rw [turn1, if_pos h0], rfl, fun _ _ e => e⟩
    · have e : decide ((0 : Int) < Wa) = true := decide_eq_true (by omega)
      rw [e]
      obtain ⟨n, hn⟩ := ha.2.resolve_left h0
      refine nCall (name_K F X TR (by k_is) ?_ rfl rfl (by decide))
      refine nCallWith_K (K := Mine.hd.heap_39 w.params) (by k_is) (wpN_of (spliced_more (ld F rfl (spliced_more (ld F rfl (spliced_none ⟨X.keeps F.keep, ?_⟩) rfl rfl (by decide))) rfl rfl (by decide))))
      refine wpN_at (N_swap (X.keeps F.keep) (T.keeps F.keep) hWa (by omega) ha.1 hn hlen (fun h' tk t' hk => ?_))
      exact ⟨h', tk, t', by rw [turn1, if_neg h0], rfl, hk⟩
  rintro _ _ ⟨h₂, tk₂, t₂, rfl, rfl, hk₂⟩
  have F₂ := F.keeps hk₂
  refine st F₂ (fun h₃ F₃ => ?_) rfl rfl
  show wpN _ _ (execs _ _) _ _ _
  refine nExecs_cons (nReturn_some (nIfExp (wpAny_isTrue_Compare1 (ld F₃ rfl (wpAny_Constant_int (gt_int (wpAny_truthy_bool ?_))) rfl rfl (by decide)) rfl)))
  by_cases h0 : b = 0
  · have e : decide ((0 : Int) < Wb) = false := decide_eq_false (by omega)
    rw [e]
    refine wpN_of (ld F₃ rfl ?_ rfl rfl (by decide))
    have e2 : turn1 b (turn1 a bs) = turn1 a bs := by rw [turn1, if_pos h0]
    rw [e2] at ret
    exact ret _ _ _ F₃.keep
  · have e : decide ((0 : Int) < Wb) = true := decide_eq_true (by omega)
    rw [e]
    obtain ⟨n, hn⟩ := hb.2.resolve_left h0
    refine nCall (name_K F₃ X TR (by k_is) ?_ rfl rfl (by decide))
    refine nCallWith_K (K := Mine.hd.heap_39 w.params) (by k_is) (wpN_of (spliced_more (ld F₃ rfl (spliced_more (ld F₃ rfl (spliced_none ⟨X.keeps F₃.keep, ?_⟩) rfl rfl (by decide))) rfl rfl (by decide))))
    refine wpN_at (N_swap (X.keeps F₃.keep) (T.keeps F₃.keep) hWb (by omega) hb.1 (n := n) (by rw [turn1_len]; exact hn) (by rw [turn1_len]; exact hlen) (fun h' tk t' hk => ?_))
    have e2 : turn1 b (turn1 a bs) = swapL b (turn1 a bs) := by rw [turn1, if_neg h0]
    rw [e2] at ret
    exact ret _ _ _ (fun b o e => hk b o (F₃.keep b o e))
end
end Mine

/-! # M16 -/
namespace Mine

theorem boot_ord : bootBuiltins "ord" = some (.builtin "ord") := by decide +kernel
theorem boot_chr : bootBuiltins "chr" = some (.builtin "chr") := by decide +kernel
theorem boot_bytes : bootBuiltins "bytes" = some (.type "bytes") := by decide +kernel

section
variable {prog : Program} {w : World} {A : Around} {E : Value → Shared → Prop} {s : Shared} {env : Env}

/-- a comprehension with one test over a range from nought by ones -/
theorem comp_rng1 {elt ct iter : Expr} {x : Str} {px : Pos} {scope : Scope} {cl : List (Str × Addr)} {pos : Pos} {Q : Value → Shared → Prop} (pz : Value → Bool) (G : Value → Value → Prop) {n : Nat} (hh : A.handled = none)
    (hclos : closureFor scope env = pure cl) (hcell : ∀ y ∈ scope.names, y.2 ≠ .cell) (hkind : scope.kind = .function)
    (hnames : ∀ y ∈ scope.names, y.2 = .local → scope.names.lookup y.1 = some .local) (hx : scope.names.lookup x = some .local)
    (h : wpAny (model prog w) A (eval iter env) (fun xv s₁ => ∃ r b t u v, xv = .ref r ∧ IsRange s₁.heap r 0 b 1 t u v ∧ Builtin.Range.small 0 b 1 = true ∧ Builtin.Range.rangeSize 0 b 1 = (n : Int) ∧ n ≤ 1000000 ∧
      (∀ C (i : Nat) t s₃ m₃ E', s₁.heap.objs.size ≤ C → i < n → s₃.heap.Ns C m₃ → m₃ x = some (.int (0 + (i : Nat) * 1) t) → Kp s₁.heap s₃.heap → s₁.toks ≤ s₃.toks →
        wpAny (model prog w) A (isTrue ct (compEnvC scope cl C env) (eval ct (compEnvC scope cl C env))) (fun ok s₄ => ok = pz (.int (0 + (i : Nat) * 1) t) ∧ Keeps s₃ s₄) E' s₃) ∧
      (∀ C (i : Nat) t s₃ m₃ E', s₁.heap.objs.size ≤ C → i < n → pz (.int (0 + (i : Nat) * 1) t) = true → s₃.heap.Ns C m₃ → m₃ x = some (.int (0 + (i : Nat) * 1) t) → Kp s₁.heap s₃.heap → s₁.toks ≤ s₃.toks →
        wpAny (model prog w) A (eval elt (compEnvC scope cl C env)) (fun y s₄ => G (.int (0 + (i : Nat) * 1) t) y ∧ Keeps s₃ s₄) E' s₃) ∧
      ∀ D h' tk n' (vs ys : List Value), Kp s₁.heap h' → s₁.heap.get? D = none → h'.get? D = some (listOf ys.toArray n') → vs.length = n → (∀ (j : Nat) (v : Value), vs[j]? = some v → ∃ t, v = .int (0 + (j : Nat) * 1) t) → Paired G (vs.filter pz) ys → Q (.ref D) { s₁ with heap := h', toks := tk }) E s)
    (hs : ∀ x, foldedSetIterable iter env x = pure x := by intro _; rfl) :
    wpAny (model prog w) A (eval (.ListComp elt [⟨.Name x px, iter, [ct], 0⟩] scope pos) env) Q E s := by
  refine wpAny_ListComp_free pz G hclos hcell hkind hnames hx (wpAny_mono h (fun xv s₁ h₁ => ?_) fun _ _ e => e) hs
  obtain ⟨r, b, t, u, v, rfl, hr, hsm, hn, hsz, htest, helt, hQ⟩ := h₁
  refine wpAny_pyIter_range hr hsm ?_
  have up : ∀ b' o, s₁.heap.get? b' = some o → (s₁.heap.push { cls := .type "range_iterator", data := .fields #[rawInt 0, rawInt (Builtin.Range.rangeSize 0 b 1), rawInt 1] }).get? b' = some o := fun b o e => Heap.get?_push_of_some _ e
  refine ⟨s₁.heap.objs.size, _, _, n, _, _, rfl, (Walks.range hh _ 0 1 n).bound, by rw [sizeLine_eq]; omega, (by show IsRangeIter _ _ _ _ _; rw [hn]; simpa using Heap.get?_push_size _ rfl), ?_, ⟨?_, ?_⟩, ?_⟩
  · intro b' hb
    show b' < (s₁.heap.push _).objs.size
    rw [Heap.size_push, List.mem_singleton.mp hb]
    exact Nat.lt_succ_self _
  · rintro C i v s₃ m₃ E' hC ⟨hi, t', rfl⟩ hns hm hk htk
    have hC' : s₁.heap.objs.size ≤ C := by
      have : (s₁.heap.push { cls := .type "range_iterator", data := .fields #[rawInt 0, rawInt (Builtin.Range.rangeSize 0 b 1), rawInt 1] }).objs.size ≤ C := hC
      rw [Heap.size_push] at this; omega
    exact wpAny_tests_one (htest C i t' s₃ m₃ E' hC' hi hns hm (fun b' o e => hk b' o (fun q => by rw [List.mem_singleton.mp q] at e; exact Nat.lt_irrefl _ (Heap.lt_size e)) (up b' o e)) htk)
  · rintro C i v s₃ m₃ E' hC ⟨hi, t', rfl⟩ hpz hns hm hk htk
    have hC' : s₁.heap.objs.size ≤ C := by
      have : (s₁.heap.push { cls := .type "range_iterator", data := .fields #[rawInt 0, rawInt (Builtin.Range.rangeSize 0 b 1), rawInt 1] }).objs.size ≤ C := hC
      rw [Heap.size_push] at this; omega
    exact helt C i t' s₃ m₃ E' hC' hi hpz hns hm (fun b' o e => hk b' o (fun q => by rw [List.mem_singleton.mp q] at e; exact Nat.lt_irrefl _ (Heap.lt_size e)) (up b' o e)) htk
  · intro D h' tk ys vs' hD _ hpl hlen hP hF hk
    obtain ⟨n', hn'⟩ := hpl
    have hk' : Kp s₁.heap h' := fun b' o e => hk b' o (fun q => by rw [List.mem_singleton.mp q] at e; exact Nat.lt_irrefl _ (Heap.lt_size e)) (up b' o e)
    refine hQ D h' tk n' vs' ys.toList hk' ?_ (by simpa using hn') hlen (fun j v e => (hP j v e).2) hF
    cases q : s₁.heap.get? D with
    | none => rfl
    | some o => have := up D o q; rw [hD] at this; cases this
end

section
variable {prog : Program} {w : World} {A : Around} {E : Value → Shared → Prop} {s : Shared} {env : Env} {h₀ : Heap} {x : Str} {body : List Stmt} {Q : Flow → Shared → Prop} {m₀ : Str → Option Value} {news : List (Addr × Obj)}
theorem iter_rngZ {r : Addr} {b₀ c : Int} {t₀ u₀ v₀ : Tok} {n : Nat} (J : Nat → (Str → Option Value) → List (Addr × Obj) → Prop) (hh : A.handled = none)
    (hr : IsRange s.heap r 0 b₀ c t₀ u₀ v₀) (hsmall : Builtin.Range.small 0 b₀ c = true) (hn : Builtin.Range.rangeSize 0 b₀ c = (n : Int)) (F : Fr h₀ env.locals s.heap m₀) (N : News h₀ env.locals s.heap news) (hj : J 0 m₀ news)
    (turn : ∀ (i : Nat) (z : Int) t m₁ news₁ h tk own, z = (i : Int) * c → i < n → news₁.map (·.1) = news.map (·.1) → OwnOff own (news.map (·.1)) → J i m₁ news₁ → Fr h₀ env.locals h (fun y => if y = x then some (.int z t) else m₁ y) → News h₀ env.locals h (news₁ ++ own) →
      wpAny (model prog w) A (execs body env) (InvPostN h₀ env.locals (J (i + 1)) own (news.map (·.1)) { s with heap := h, toks := tk } Q) E { s with heap := h, toks := tk })
    (done : ∀ m₁ news₁ h tk, J n m₁ news₁ → Fr h₀ env.locals h m₁ → News h₀ env.locals h news₁ → Q .next { s with heap := h, toks := tk }) :
    wpAny (model prog w) A (pyIter (.ref r)) (fun it s₂ => LoopAtV prog w A h₀ env x body Q E it s₂) E s :=
  iter_rng J hh hr hsmall hn F N hj (fun i t m₁ news₁ h tk own hi ha ho hJ F₁ N₁ => turn i (0 + (i : Nat) * c) t m₁ news₁ h tk own (by omega) hi ha ho hJ F₁ N₁) done
end

/-! ## bytes as lists of small numbers -/
def bytL (l : List Nat) : List UInt8 := l.map fun n => n.toUInt8
theorem byt_eq (l : List Nat) : byt l = (bytL l).toArray := by
  unfold byt byteArr bytL
  rw [List.map_map]
  rfl
theorem bytL_getD (l : List Nat) (i : Nat) (h : ∀ n ∈ l, n < 256) : ((bytL l).getD i 0).toNat = l.getD i 0 := by
  unfold bytL
  rw [List.getD_eq_getElem?_getD, List.getD_eq_getElem?_getD, List.getElem?_map]
  cases e : l[i]? with
  | none => rfl
  | some n =>
    have := h n (List.mem_of_getElem? e)
    show (n.toUInt8).toNat = n
    show n % 256 = n
    omega
theorem pick_id (c : Nat) : pickN [0, 1, 2, 3] c = fourN c := rfl
theorem oct_get : ∀ (l : List Nat) (i k c : Nat), k < 4 → l[i]? = some c → (octN [0, 1, 2, 3] l).getD (i * 4 + k) 0 = (fourN c).getD k 0
  | [], i, k, c, _, h => by simp at h
  | d :: l, 0, k, c, hk, h => by
    have e : d = c := by simpa using h
    subst e
    show (fourN d ++ octN [0, 1, 2, 3] l).getD (0 * 4 + k) 0 = _
    rw [Nat.zero_mul, Nat.zero_add, List.getD_eq_getElem?_getD, List.getD_eq_getElem?_getD, List.getElem?_append_left (by simpa [fourN] using hk)]
  | d :: l, i + 1, k, c, hk, h => by
    have ih := oct_get l i k c hk (by simpa using h)
    show (fourN d ++ octN [0, 1, 2, 3] l).getD ((i + 1) * 4 + k) 0 = _
    rw [List.getD_eq_getElem?_getD, List.getElem?_append_right (by simp [fourN]; omega)]
    have e : (i + 1) * 4 + k - (fourN d).length = i * 4 + k := by simp [fourN]; omega
    rw [e, ← List.getD_eq_getElem?_getD]
    exact ih

def idxO (o : Nat) : Nat := [3, 0, 2, 1].getD o 0
def bA (o : Nat) : Nat := [0, 0, 2, 2].getD o 0
def bB (o : Nat) : Nat := [0, 4, 0, 4].getD o 0
end Mine

/-! # M17 -/
namespace Mine

theorem Div_of {o k n : Nat} (ho : o < 4) (f : Nat → Nat) (hf : f = bA ∨ f = bB) (h : n = k * 4) : Div (f o) n := by
  have h2 : ∃ q, n = q * 2 := ⟨k * 2, by omega⟩
  have h4 : ∃ q, n = q * 4 := ⟨k, h⟩
  have : o = 0 ∨ o = 1 ∨ o = 2 ∨ o = 3 := by omega
  rcases hf with rfl | rfl <;> rcases this with rfl | rfl | rfl | rfl
  · exact ⟨by decide, .inl rfl⟩
  · exact ⟨by decide, .inl rfl⟩
  · exact ⟨by decide, .inr h2⟩
  · exact ⟨by decide, .inr h2⟩
  · exact ⟨by decide, .inl rfl⟩
  · exact ⟨by decide, .inr h4⟩
  · exact ⟨by decide, .inl rfl⟩
  · exact ⟨by decide, .inr h4⟩

/-- the one place of four that passes -/
theorem filter_four {vs ys : List Value} {o : Nat} (ho : o < 4) (hlen : vs.length = 4) (hP : ∀ (j : Nat) (v : Value), vs[j]? = some v → ∃ t, v = .int (0 + (j : Nat) * 1) t)
    (pz : Value → Bool) (hpz : ∀ (k : Nat) (t : Tok), k < 4 → pz (.int (0 + (k : Nat) * 1) t) = decide (k = idxO o)) (h : Paired (fun v y => y = v) (vs.filter pz) ys) : ∃ t : Tok, ys[0]? = some (.int ((idxO o : Nat) : Int) t) := by
  match vs, hlen with
  | [a, b, c, d], _ =>
    obtain ⟨ta, rfl⟩ := hP 0 a rfl
    obtain ⟨tb, rfl⟩ := hP 1 b rfl
    obtain ⟨tc, rfl⟩ := hP 2 c rfl
    obtain ⟨td, rfl⟩ := hP 3 d rfl
    have : o = 0 ∨ o = 1 ∨ o = 2 ∨ o = 3 := by omega
    rcases this with rfl | rfl | rfl | rfl
    · have e0 : pz (.int (0 + ((0 : Nat) : Int) * 1) ta) = false := (hpz 0 ta (by omega)).trans (by decide)
      have e1 : pz (.int (0 + ((1 : Nat) : Int) * 1) tb) = false := (hpz 1 tb (by omega)).trans (by decide)
      have e2 : pz (.int (0 + ((2 : Nat) : Int) * 1) tc) = false := (hpz 2 tc (by omega)).trans (by decide)
      have e3 : pz (.int (0 + ((3 : Nat) : Int) * 1) td) = true := (hpz 3 td (by omega)).trans (by decide)
      rw [List.filter_cons, e0, List.filter_cons, e1, List.filter_cons, e2, List.filter_cons, e3] at h
      cases h with
      | cons e _ => exact ⟨_, congrArg some e⟩
    · have e0 : pz (.int (0 + ((0 : Nat) : Int) * 1) ta) = true := (hpz 0 ta (by omega)).trans (by decide)
      have e1 : pz (.int (0 + ((1 : Nat) : Int) * 1) tb) = false := (hpz 1 tb (by omega)).trans (by decide)
      have e2 : pz (.int (0 + ((2 : Nat) : Int) * 1) tc) = false := (hpz 2 tc (by omega)).trans (by decide)
      have e3 : pz (.int (0 + ((3 : Nat) : Int) * 1) td) = false := (hpz 3 td (by omega)).trans (by decide)
      rw [List.filter_cons, e0, List.filter_cons, e1, List.filter_cons, e2, List.filter_cons, e3] at h
      cases h with
      | cons e _ => exact ⟨_, congrArg some e⟩
    · have e0 : pz (.int (0 + ((0 : Nat) : Int) * 1) ta) = false := (hpz 0 ta (by omega)).trans (by decide)
      have e1 : pz (.int (0 + ((1 : Nat) : Int) * 1) tb) = false := (hpz 1 tb (by omega)).trans (by decide)
      have e2 : pz (.int (0 + ((2 : Nat) : Int) * 1) tc) = true := (hpz 2 tc (by omega)).trans (by decide)
      have e3 : pz (.int (0 + ((3 : Nat) : Int) * 1) td) = false := (hpz 3 td (by omega)).trans (by decide)
      rw [List.filter_cons, e0, List.filter_cons, e1, List.filter_cons, e2, List.filter_cons, e3] at h
      cases h with
      | cons e _ => exact ⟨_, congrArg some e⟩
    · have e0 : pz (.int (0 + ((0 : Nat) : Int) * 1) ta) = false := (hpz 0 ta (by omega)).trans (by decide)
      have e1 : pz (.int (0 + ((1 : Nat) : Int) * 1) tb) = true := (hpz 1 tb (by omega)).trans (by decide)
      have e2 : pz (.int (0 + ((2 : Nat) : Int) * 1) tc) = false := (hpz 2 tc (by omega)).trans (by decide)
      have e3 : pz (.int (0 + ((3 : Nat) : Int) * 1) td) = false := (hpz 3 td (by omega)).trans (by decide)
      rw [List.filter_cons, e0, List.filter_cons, e1, List.filter_cons, e2, List.filter_cons, e3] at h
      cases h with
      | cons e _ => exact ⟨_, congrArg some e⟩

section
variable {prog : Program} {w : World} {A : Around} {E : Value → Shared → Prop} {s : Shared} {h₀ : Heap} {L f : Addr} {m : Str → Option Value} {cn : Str} {cs : Scope} {ccd : Value} {cl : List (Str × Addr)} {news : List (Addr × Obj)}
theorem pick4 {a b c d : Int} {k1 k2 k3 k4 o : Nat} {p1 p2 p3 p4 p5 p6 p7 : Pos} {t : Tok} {Q : Value → Shared → Prop} (F : Fr h₀ L s.heap m) (N : News h₀ L s.heap news) (hm : m (Str.ofString "order") = some (.int ((o : Nat) : Int) t)) (ho : o < 4)
    (h : ∀ h' tk t', Fr h₀ L h' m → News h₀ L h' news → Q (.int ([a, b, c, d].getD o 0) t') { s with heap := h', toks := tk })
    (hk : cs.kind = .function := by rfl) (hx : (envX cn cs L f ccd cl).kindOf (Str.ofString "order") = some .local := by rfl) :
    wpAny (model prog w) A (eval (.Subscript (.List [.Constant (.int a) k1 p1, .Constant (.int b) k2 p2, .Constant (.int c) k3 p3, .Constant (.int d) k4 p4] p5) (.Name (Str.ofString "order") p6) p7) (envX cn cs L f ccd cl)) Q E s := by
  refine Subscript_ (List_ (wpAny_mono (Q := fun vs s' => (∃ ta tb tc td, vs = [.int a ta, .int b tb, .int c tc, .int d td]) ∧ ∃ tk, s' = { s with toks := tk }) ?_ ?_ (fun _ _ e => e)))
  · refine spliced_more (wpAny_Constant_int ?_)
    refine spliced_more (wpAny_Constant_int ?_)
    refine spliced_more (wpAny_Constant_int ?_)
    refine spliced_more (wpAny_Constant_int ?_)
    exact spliced_none ⟨⟨_, _, _, _, rfl⟩, _, rfl⟩
  rintro _ _ ⟨⟨ta, tb, tc, td, rfl⟩, tk, rfl⟩
  refine newList_K F N (fun D h₂ F₂ N₂ hD => ?_) (Nat.le_of_ble_eq_true rfl)
  refine nameX_L F₂ hm ?_ hk hx (by decide)
  have hl := News.isList N₂ (List.mem_cons_self ..)
  have N₃ : News h₀ L h₂ news := fun q hq => N₂ q (List.mem_cons_of_mem _ hq)
  have : o = 0 ∨ o = 1 ∨ o = 2 ∨ o = 3 := by omega
  rcases this with rfl | rfl | rfl | rfl
  · exact item_litK hl (by decide) (by decide) rfl (h _ _ _ F₂ N₃)
  · exact item_litK hl (by decide) (by decide) rfl (h _ _ _ F₂ N₃)
  · exact item_litK hl (by decide) (by decide) rfl (h _ _ _ F₂ N₃)
  · exact item_litK hl (by decide) (by decide) rfl (h _ _ _ F₂ N₃)
theorem oct_item {K J : Int} {bs : List UInt8} {tb tK : Tok} {c0 : Addr} {o' : Obj} {kk : Nat} {p1 p2 p3 p4 p5 : Pos} {Q : Value → Shared → Prop} (F : Fr h₀ L s.heap m) (N : News h₀ L s.heap news)
    (hcl : cl.lookup (Str.ofString "octets") = some c0) (hmem : (c0, o') ∈ news) (ho' : o'.data = .cell (some (.bytes bs.toArray tb))) (hmk : m (Str.ofString "k") = some (.int K tK))
    (h0 : 0 ≤ K + J) (h1 : K + J < bs.length) (h2 : bs.length ≤ 1000000) (h : ∀ tk' t', Q (.int (((bs.getD (K + J).toNat 0).toNat : Nat) : Int) t') { s with toks := tk' })
    (hk : cs.kind = .function := by rfl) (hx : (envX cn cs L f ccd cl).kindOf (Str.ofString "k") = some .local := by rfl) (hy : (envX cn cs L f ccd cl).kindOf (Str.ofString "octets") = some .cell := by rfl) :
    wpAny (model prog w) A (eval (.Subscript (.Name (Str.ofString "octets") p1) (.BinOp (.Name (Str.ofString "k") p2) .Add (.Constant (.int J) kk p3) p4) p5) (envX cn cs L f ccd cl)) Q E s := by
  refine Subscript_ (nameX_C N hcl hmem ho' ?_ hk hy (by decide))
  refine wpAny_BinOp (nameX_L F hmk ?_ hk hx (by decide))
  refine wpAny_Constant_int (add_int ?_)
  exact KBy.item_N (x := bs) (by omega) h0 h1 (h _ _)
theorem sign_expr {K : Int} {bs : List UInt8} {tb tK : Tok} {c0 : Addr} {o' : Obj} {k1 k2 k3 k4 k5 : Nat} {p1 p2 p3 p4 p5 q1 q2 q3 q4 q5 r1 r2 r3 r4 r5 a1 a2 b1 b2 b3 b4 : Pos} {Q : Value → Shared → Prop} (F : Fr h₀ L s.heap m) (N : News h₀ L s.heap news)
    (hcl : cl.lookup (Str.ofString "octets") = some c0) (hmem : (c0, o') ∈ news) (ho' : o'.data = .cell (some (.bytes bs.toArray tb))) (hmk : m (Str.ofString "k") = some (.int K tK))
    (h0 : 0 ≤ K) (h1 : K + 3 < bs.length) (h2 : bs.length ≤ 1000000)
    (h : ∀ tk' t', Q (.int (((((bs.getD (K + 1).toNat 0).toNat : Nat) : Int) * 256 + (((bs.getD (K + 2).toNat 0).toNat : Nat) : Int)) * 256 + (((bs.getD (K + 3).toNat 0).toNat : Nat) : Int)) t') { s with toks := tk' })
    (hk : cs.kind = .function := by rfl) (hx : (envX cn cs L f ccd cl).kindOf (Str.ofString "k") = some .local := by rfl) (hy : (envX cn cs L f ccd cl).kindOf (Str.ofString "octets") = some .cell := by rfl) :
    wpAny (model prog w) A (eval (.BinOp (.BinOp (.BinOp (.BinOp (.Subscript (.Name (Str.ofString "octets") p1) (.BinOp (.Name (Str.ofString "k") p2) .Add (.Constant (.int 1) k1 p3) p4) p5) .Mult (.Constant (.int 256) k4 a1) b1) .Add (.Subscript (.Name (Str.ofString "octets") q1) (.BinOp (.Name (Str.ofString "k") q2) .Add (.Constant (.int 2) k2 q3) q4) q5) b2) .Mult (.Constant (.int 256) k5 a2) b3) .Add
      (.Subscript (.Name (Str.ofString "octets") r1) (.BinOp (.Name (Str.ofString "k") r2) .Add (.Constant (.int 3) k3 r3) r4) r5) b4) (envX cn cs L f ccd cl)) Q E s := by
  refine wpAny_BinOp (wpAny_BinOp (wpAny_BinOp (wpAny_BinOp ?_)))
  refine oct_item F N hcl hmem ho' hmk (by omega) (by omega) h2 (fun u1 v1 => ?_) hk hx hy
  have l1 : (bs.getD (K + 1).toNat 0).toNat < 256 := (bs.getD (K + 1).toNat 0).toNat_lt
  have l2 : (bs.getD (K + 2).toNat 0).toNat < 256 := (bs.getD (K + 2).toNat 0).toNat_lt
  generalize (((bs.getD (K + 1).toNat 0).toNat : Nat) : Int) = x1 at h ⊢
  refine wpAny_Constant_int ?_
  refine PyProof.Rows.mul_int ?_ (PySem.IntMulOk.of_right (PySem.intBits_le_64 (by decide) (by decide)))
  refine oct_item (s := { s with toks := _ }) F N hcl hmem ho' hmk (by omega) (by omega) h2 (fun u2 v2 => ?_) hk hx hy
  generalize (((bs.getD (K + 2).toNat 0).toNat : Nat) : Int) = x2 at h ⊢
  refine add_int ?_
  refine wpAny_Constant_int ?_
  refine PyProof.Rows.mul_int ?_ (PySem.IntMulOk.of_right (PySem.intBits_le_64 (by decide) (by decide)))
  refine oct_item (s := { s with toks := _ }) F N hcl hmem ho' hmk (by omega) (by omega) h2 (fun u3 v3 => ?_) hk hx hy
  refine add_int ?_
  exact h _ _
end

section
variable {prog : Program} {w : World} {A : Around} {s : Shared} {p : Program} {loose : List Str} {mean : ExcName → Option Value} {mg mb : Str → Option Value} {Q E : Value → Shared → Prop}

theorem N_signs (X : (Mine.hd.heap_39 w.params).In s.heap) (T : Top p loose mean mg mb s.heap) {bs : List UInt8} {o : Nat} {l : List Nat} {t : Tok}
    (ho : o < 4) (hlen : bs.length = l.length * 4) (hm : 0 < l.length) (hl : ∀ c ∈ l, c < 1114112) (hlen2 : l.length ≤ 20000)
    (h60 : ∀ k, k < 4 → ((bs.getD k 0).toNat = 60 ↔ k = idxO o)) (hturn : turn1 (bB o) (turn1 (bA o) bs) = bytL (octN [0, 1, 2, 3] l))
    (ret : ∀ h' tk t', Kp s.heap h' → Q (.str (tx l) t') { s with heap := h', toks := tk }) :
    wpN (model prog w) (AtC 378 460) (call (.ref 76) [.bytes bs.toArray t]) Q E s := by
  refine wpN_call ?_
  refine' enter_cellsN (binds := [(Str.ofString "octets", Value.bytes bs.toArray t)]) X T ?ho ?hcd ?room ?hb ?hki ?hnd ?h ?c2 ?c3 ?c4
  case ho => k_is
  case hcd => k_is
  case room => exact Nat.le_of_ble_eq_true rfl
  case hb => exact BindsTo.of_eq rfl
  case hki => exact rfl
  case hnd => decide +kernel
  case c2 => exact rfl
  case c3 => exact rfl
  case c4 => exact rfl
  intro L h₁ tk cells htk F N hcl
  obtain ⟨oc, rfl, hoc⟩ := CellsAre.one hcl
  clear hcl
  have TR := topRead_of T
  replace hoc : oc.data = .cell (some (Value.bytes bs.toArray t)) := hoc
  obtain ⟨m0, F⟩ : ∃ m0, Fr s.heap L h₁ m0 := ⟨_, F⟩
  refine nExecs_cons (nAssign_Name (wpN_of (wpAny_mono (Q := fun r s' => ∃ h' tk t', r = .int ((o : Nat) : Int) t' ∧ s' = { s with heap := h', toks := tk } ∧ Fr s.heap L h' m0 ∧ News s.heap L h' [(L + 1, oc)]) ?_ ?_ (fun _ _ e => e))) rfl)
  · refine Subscript_ (List_ ?_)
    refine spliced_more (wpAny_Constant_int ?_)
    refine spliced_more (wpAny_Constant_int ?_)
    refine spliced_more (wpAny_Constant_int ?_)
    refine spliced_more (wpAny_Constant_int ?_)
    refine spliced_none ?_
    refine newList_K F N (fun D h₂ F₂ N₂ hD => ?_) (Nat.le_of_ble_eq_true rfl)
    refine Subscript_ (comp_rng1 (n := 4) (fun v => match v with | .int k _ => decide (k = ((idxO o : Nat) : Int)) | _ => false) (fun v y => y = v) rfl rfl (by decide) rfl (by decide) rfl ?_)
    refine Call_ (nameX_B F₂ X TR (by k_is) boot_range (by decide) (PyProof.Rows.callWith_type1 (spliced_more (wpAny_Constant_int (spliced_none ?_)))) rfl rfl (by decide))
    refine range1_rows F₂ N₂ ?_
    intro h₃ tk₃ t₁ u₁ v₁ hr F₃ N₃ _
    have hsz : Builtin.Range.rangeSize 0 4 1 = ((4 : Nat) : Int) := by decide
    refine ⟨_, 4, t₁, u₁, v₁, rfl, hr, by decide, hsz, by decide, ?_, ?_, ?_⟩
    · intro C i ti s₃ m₃ E' hC hi hns hmx hkp htk'
      have hcell : s₃.heap.IsCell (L + 1) (some (Value.bytes bs.toArray t)) := ⟨oc, hkp _ _ (N₃ (L + 1, oc) (.tail _ (.head _))).1, hoc⟩
      refine wpAny_isTrue_Compare1 (Subscript_ (wpAny_Name (wpAny_loadName_cell rfl rfl rfl hcell (wpAny_Name (wpAny_loadName_local rfl rfl hns hmx ?_) (by decide))) (by decide))) rfl
      refine KBy.item_N (x := bs) (by omega) (by omega) (by omega) (wpAny_Constant_int (eq_int (wpAny_truthy_bool ?_)))
      refine ⟨?_, s₃.heap, _, rfl, fun _ _ e => e⟩
      have e1 : (0 + (i : Int) * 1).toNat = i := by omega
      have := h60 i hi
      rw [e1]
      show decide (((bs.getD i 0).toNat : Int) = 60) = decide (0 + (i : Int) * 1 = ((idxO o : Nat) : Int))
      rw [decide_eq_decide]
      omega
    · intro C i ti s₃ m₃ E' hC hi hpz hns hmx hkp htk'
      exact wpAny_Name (wpAny_loadName_local rfl rfl hns hmx ⟨rfl, s₃.heap, _, rfl, fun _ _ e => e⟩) (by decide)
    · intro D2 h₄ tk₄ n₄ vs ys hkp hD2 hg hvl hP hF
      obtain ⟨ty, hy⟩ := filter_four ho hvl hP _ (fun k t hk => by
        show decide (0 + (k : Int) * 1 = ((idxO o : Nat) : Int)) = decide (k = idxO o)
        rw [decide_eq_decide]; omega) hF
      refine wpAny_Constant_int (item_litK (vs := ys) ⟨_, hg, rfl, _, rfl⟩ (by decide) (by decide) hy ?_)
      have N₄ := N₃.grown hkp
      have hD' := News.isList N₄ (List.mem_cons_self ..)
      have N₅ : News s.heap L h₄ [(L + 1, oc)] := fun q hq => N₄ q (List.mem_cons_of_mem _ hq)
      have F₅ := F₃.keeps hkp
      clear N₃ hF hP hvl
      have : o = 0 ∨ o = 1 ∨ o = 2 ∨ o = 3 := by omega
      rcases this with rfl | rfl | rfl | rfl
      · exact item_litK hD' (by decide) (by decide) rfl ⟨_, _, _, rfl, rfl, F₅, N₅⟩
      · exact item_litK hD' (by decide) (by decide) rfl ⟨_, _, _, rfl, rfl, F₅, N₅⟩
      · exact item_litK hD' (by decide) (by decide) rfl ⟨_, _, _, rfl, rfl, F₅, N₅⟩
      · exact item_litK hD' (by decide) (by decide) rfl ⟨_, _, _, rfl, rfl, F₅, N₅⟩
  rintro _ _ ⟨h₂, tk₂, t₂, rfl, rfl, F₂, N₂⟩
  refine storeX_L F₂ N₂ (fun h₃ F₃ N₃ => ?_) rfl rfl
  show wpN _ _ (execs _ _) _ _ _
  refine nExecs_cons (nAssign_Name (nCall (nameX_K F₃ X TR (by k_is) ?_ rfl rfl (by decide))) rfl)
  refine nCallWith_K (K := Mine.hd.heap_39 w.params) (by k_is) (wpN_of ?_)
  refine spliced_more (nameX_C N₃ rfl (List.mem_cons_self ..) hoc ?_ rfl rfl (by decide))
  refine spliced_more (pick4 (o := o) F₃ N₃ rfl ho (fun h₄ tk₄ t₄ F₄ N₄ => ?_))
  refine spliced_more (pick4 (o := o) F₄ N₄ rfl ho (fun h₅ tk₅ t₅ F₅ N₅ => spliced_none ⟨X.keeps F₅.keep, ?_⟩))
  have eA : ([0, 0, 2, 2] : List Int).getD o 0 = ((bA o : Nat) : Int) := by
    have : o = 0 ∨ o = 1 ∨ o = 2 ∨ o = 3 := by omega
    rcases this with rfl | rfl | rfl | rfl <;> rfl
  have eB : ([0, 4, 0, 4] : List Int).getD o 0 = ((bB o : Nat) : Int) := by
    have : o = 0 ∨ o = 1 ∨ o = 2 ∨ o = 3 := by omega
    rcases this with rfl | rfl | rfl | rfl <;> rfl
  refine wpN_at (N_turned (X.keeps F₅.keep) (T.keeps F₅.keep) (a := bA o) (b := bB o) eA eB (Div_of ho bA (.inl rfl) hlen) (Div_of ho bB (.inr rfl) hlen) (by omega) (fun h₆ tk₆ t₆ hk₆ => ?_))
  rw [hturn]
  have F₆ := F₅.keeps hk₆
  have N₆ := N₅.grown hk₆
  refine storeX_C F₆ N₆ rfl (.head (fun _ hp => (nomatch hp))) hoc (fun h₇ o' F₇ N₇ ho' => ?_) rfl rfl
  show wpN _ _ (execs _ _) _ _ _
  refine wpN_of (norm_tk (s := s) (h := h₇) ⟨_, rfl⟩ (fun tk₇' => ?_))
  clear F N F₂ N₂ F₃ N₃ F₄ N₄ F₅ N₅ F₆ N₆ h60 hturn hoc hk₆
  refine wpAny_execs_cons (wpAny_Assign_Name (Constant_str (storeX_L F₇ N₇ (fun h₈ F₈ N₈ => ?_) rfl rfl)) rfl)
  refine norm_tk (s := s) (h := h₈) ⟨_, rfl⟩ (fun tk₈' => ?_)
  refine wpAny_execs_cons (For_invV s.heap rfl rfl ?_)
  refine Call_ (nameX_B F₈ X TR (by k_is) boot_range (by decide) ?_ rfl rfl (by decide))
  refine PyProof.Rows.callWith_type1 (spliced_more (wpAny_Constant_int ?_))
  refine spliced_more (Call_ (nameX_B F₈ X TR (by k_is) boot_len (by decide) ?_ rfl rfl (by decide)))
  refine PyProof.Rows.callWith_builtin1 (spliced_more (nameX_C N₈ rfl (List.mem_cons_self ..) ho' (spliced_none ?_) rfl rfl (by decide)))
  have hbl : (bytL (octN [0, 1, 2, 3] l)).length = l.length * 4 := by rw [bytL, List.length_map, octN_len _ rfl]
  refine len_bytes (by rw [List.size_toArray, hbl]; omega) ?_
  have hB2 : (((bytL (octN [0, 1, 2, 3] l)).toArray.size : Nat) : Int) = ((l.length * 4 : Nat) : Int) := by rw [List.size_toArray, hbl]
  rw [hB2]
  refine spliced_more (wpAny_Constant_int (spliced_none ?_))
  refine range3_rows F₈ N₈ (by decide) ?_ (Or.inl (PyProof.noPylong_small (by decide)))
  intro h₉ tk₉ t₁ u₁ v₁ hr F₉ N₉ _
  refine norm_tk (s := s) (h := h₉) ⟨_, rfl⟩ (fun tk₉' => ?_)
  have hsz : Builtin.Range.rangeSize 0 ((l.length * 4 : Nat) : Int) 4 = (l.length : Int) := rng_size (n := l.length) (c := 4) (by omega)
  refine iter_rngZ (n := l.length) (news := [(L + 1, o')]) (fun i m nx => nx = [(L + 1, o')] ∧ ∃ tt, m (Str.ofString "text") = some (.str (tx (l.take i)) tt)) rfl hr (rng_small hsz (by omega) (by omega) (by omega)) hsz F₉ N₉ ⟨rfl, _, rfl⟩ ?_ ?_
  · rintro i K ti m₁ news₁ h tk own hK hi hadr hoff ⟨rfl, tt, hm1⟩ F₁ N₁
    have hci : l[i]? = some l[i] := List.getElem?_eq_getElem hi
    have hc := hl l[i] (List.getElem_mem hi)
    have hmk : (fun y => if y = Str.ofString "k" then some (Value.int K ti) else m₁ y) (Str.ofString "k") = some (Value.int K ti) := rfl
    generalize l[i] = c at hci hc
    have hb256 := octN_lt (pl := [0, 1, 2, 3]) hl
    refine wpAny_execs_cons (wpAny_AugAssign_Name (wpAny_loadName_local rfl rfl F₁.ns (hm1 : _ = some (Value.str (tx (l.take i)) tt)) ?_))
    refine Call_ (nameX_B F₁ X TR (by k_is) boot_chr (by decide) ?_ rfl rfl (by decide))
    refine PyProof.Rows.callWith_builtin1 (spliced_more (wpAny_mono (Q := fun v s' => ∃ tk t', v = .int ((c : Nat) : Int) t' ∧ s' = { s with heap := h, toks := tk }) ?_ ?_ (fun _ _ e => e)))
    · have e1 : (K + 1).toNat = i * 4 + 1 := by omega
      have e2 : (K + 2).toNat = i * 4 + 2 := by omega
      have e3 : (K + 3).toNat = i * 4 + 3 := by omega
      have E1 : ((((bytL (octN [0, 1, 2, 3] l)).getD (K + 1).toNat 0).toNat : Nat) : Int) = ((c / 65536 : Nat) : Int) := by rw [e1, bytL_getD _ _ hb256, oct_get l i 1 c (by omega) hci]; rfl
      have E2 : ((((bytL (octN [0, 1, 2, 3] l)).getD (K + 2).toNat 0).toNat : Nat) : Int) = ((c / 256 % 256 : Nat) : Int) := by rw [e2, bytL_getD _ _ hb256, oct_get l i 2 c (by omega) hci]; rfl
      have E3 : ((((bytL (octN [0, 1, 2, 3] l)).getD (K + 3).toNat 0).toNat : Nat) : Int) = ((c % 256 : Nat) : Int) := by rw [e3, bytL_getD _ _ hb256, oct_get l i 3 c (by omega) hci]; rfl
      refine sign_expr F₁ N₁ rfl (List.mem_cons_self ..) ho' hmk (by omega) (by rw [hbl]; omega) (by rw [hbl]; omega) ?_
      intro tk' t'
      rw [E1, E2, E3]
      have ez : (((c / 65536 : Nat) : Int) * 256 + ((c / 256 % 256 : Nat) : Int)) * 256 + ((c % 256 : Nat) : Int) = (c : Int) := by omega
      rw [ez]
      exact ⟨_, _, rfl, rfl⟩
    rintro _ _ ⟨tk₂, t₂, rfl, rfl⟩
    refine spliced_none (chr_of_range (by omega) (by omega) ?_)
    have hlt : (l.take i).length ≤ l.length := by simp; omega
    refine iadd_tx (b := [c]) rfl (by rw [Int.toNat_natCast]) (by simp only [List.length_cons, List.length_nil]; omega) (fun t₃ k₃ => ?_)
    refine storeX_L F₁ N₁ (fun h₂ F₂ N₂ => wpAny_execs_nil ?_) rfl rfl
    refine InvEndN.intro F₂ N₂ ⟨rfl, t₃, ?_⟩ rfl (fun p hp => List.mem_append_left _ hp) (fun p hp => List.mem_append_right _ hp)
    show some (Value.str (tx (l.take i ++ [c])) t₃) = _
    rw [List.take_add_one, hci]; rfl
  · rintro m₁ news₁ h tk ⟨_, tt, hm1⟩ F₁ N₁
    rw [List.take_length] at hm1
    refine wpAny_execs_cons (wpAny_Return_some (nameX_L F₁ hm1 ?_ rfl rfl (by decide)))
    exact ret _ _ _ F₁.keep
end
end Mine

/-! # M18 -/
namespace Mine

theorem paired_txt {f : Nat → Str} : ∀ (l : List Nat) (vs ys : List Value), vs.length = l.length → (∀ (j : Nat) (v : Value), vs[j]? = some v → ∃ c u, l[j]? = some c ∧ v = .str ⟨#[c]⟩ u) →
    Paired (fun v y => ∃ c t u, v = Value.str ⟨#[c]⟩ t ∧ y = Value.str (f c) u) vs ys → StrsAre ys (l.map f)
  | [], [], ys, _, _, h => by cases h; exact .nil
  | [], _ :: _, _, h, _, _ => by cases h
  | _ :: _, [], _, h, _, _ => by cases h
  | c :: l, v :: vs, ys, hl, hP, h => by
    cases h with
    | cons hv hr =>
      obtain ⟨c', u, hc, rfl⟩ := hP 0 v rfl
      obtain ⟨c2, t2, u2, e2, rfl⟩ := hv
      simp only [List.getElem?_cons_zero, Option.some.injEq] at hc
      subst hc
      injection e2 with e3 _
      injection e3 with e4
      have e5 : c = c2 := by injection e4 with e6; injection e6
      subst e5
      exact .cons _ _ (paired_txt l vs _ (by simpa using hl) (fun j v hj => hP (j + 1) v (by simpa using hj)) hr)

section
variable {prog : Program} {w : World} {A : Around} {E : Value → Shared → Prop} {s : Shared} {env : Env}
/-- a comprehension without a test over a text, each sign giving a text -/
theorem comp_txt {elt iter : Expr} {x : Str} {px : Pos} {scope : Scope} {cl : List (Str × Addr)} {pos : Pos} {Q : Value → Shared → Prop} (f : Nat → Str) (hh : A.handled = none)
    (hclos : closureFor scope env = pure cl) (hcell : ∀ y ∈ scope.names, y.2 ≠ .cell) (hkind : scope.kind = .function)
    (hnames : ∀ y ∈ scope.names, y.2 = .local → scope.names.lookup y.1 = some .local) (hx : scope.names.lookup x = some .local)
    (h : wpAny (model prog w) A (eval iter env) (fun xv s₁ => ∃ l t, xv = .str (tx l) t ∧ l.length ≤ 1000000 ∧
      (∀ C c u s₃ m₃ E', s₁.heap.objs.size ≤ C → c ∈ l → s₃.heap.Ns C m₃ → m₃ x = some (.str ⟨#[c]⟩ u) → Kp s₁.heap s₃.heap → s₁.toks ≤ s₃.toks →
        wpAny (model prog w) A (eval elt (compEnvC scope cl C env)) (fun y s₄ => (∃ t', y = .str (f c) t') ∧ Keeps s₃ s₄) E' s₃) ∧
      ∀ D h' tk n (ys : List Value), Kp s₁.heap h' → s₁.heap.get? D = none → h'.get? D = some (listOf ys.toArray n) → StrsAre ys (l.map f) → Q (.ref D) { s₁ with heap := h', toks := tk }) E s)
    (hs : ∀ x, foldedSetIterable iter env x = pure x := by intro _; rfl) :
    wpAny (model prog w) A (eval (.ListComp elt [⟨.Name x px, iter, [], 0⟩] scope pos) env) Q E s := by
  refine wpAny_ListComp_free (fun _ => true) (fun v y => ∃ c t u, v = Value.str ⟨#[c]⟩ t ∧ y = Value.str (f c) u) hclos hcell hkind hnames hx (wpAny_mono h (fun xv s₁ h₁ => ?_) fun _ _ e => e) hs
  obtain ⟨l, t, rfl, hsz, helt, hQ⟩ := h₁
  refine wpAny_pyIter_str fun ob St W hst => ?_
  have up : ∀ b o, s₁.heap.get? b = some o → (s₁.heap.push ob).get? b = some o := fun b o e => Heap.get?_push_of_some _ e
  refine ⟨s₁.heap.objs.size, _, _, (tx l).cps.size, _, _, rfl, W A hh, by rw [sizeLine_eq]; simp; omega, hst, ?_, ⟨?_, ?_⟩, ?_⟩
  · intro b hb
    show b < (s₁.heap.push _).objs.size
    rw [Heap.size_push, List.mem_singleton.mp hb]
    exact Nat.lt_succ_self _
  · intro C i v s₃ m₃ E' _ _ _ _ _ _
    exact wpAny_pure ⟨rfl, s₃.heap, s₃.toks, rfl, fun _ _ e => e⟩
  · intro C i v s₃ m₃ E' hC hP _ hn hm hk htk
    have hC' : s₁.heap.objs.size ≤ C := by
      have : (s₁.heap.push ob).objs.size ≤ C := hC
      rw [Heap.size_push] at this; omega
    obtain ⟨c, u, hc, rfl⟩ := hP
    refine wpAny_mono (helt C c u s₃ m₃ E' hC' (List.mem_of_getElem? (by simpa using hc)) hn hm (fun b o e => hk b o (old_not_new e) (up b o e)) htk) (fun y s₄ h₄ => ?_) fun _ _ e => e
    obtain ⟨⟨t', rfl⟩, h₅⟩ := h₄
    exact ⟨⟨c, u, t', rfl, rfl⟩, h₅⟩
  · intro D h' tk ys vs' hD _ hpl hlen hP hF hk
    obtain ⟨n, hn⟩ := hpl
    have hk' : Kp s₁.heap h' := fun b o e => hk b o (old_not_new e) (up b o e)
    rw [List.filter_eq_self.mpr (fun _ _ => rfl)] at hF
    refine hQ D h' tk n ys.toList hk' ?_ (by simpa using hn) (paired_txt l vs' _ (by simpa using hlen) (fun j v e => ?_) hF)
    · cases q : s₁.heap.get? D with
      | none => rfl
      | some o => have := up D o q; rw [hD] at this; cases this
    · obtain ⟨c, u, hc, rfl⟩ := hP j v e
      exact ⟨c, u, by simpa using hc, rfl⟩
end
end Mine

/-! # M19 -/
namespace Mine

/-- a display of texts by texts -/
inductive LitPairs : List (Option Expr) → List Expr → List (Str × Str) → Prop
  | nil : LitPairs [] [] []
  | cons {a b : Str} {j k : Nat} {p q : Pos} {ks : List (Option Expr)} {vs : List Expr} {ps : List (Str × Str)} : LitPairs ks vs ps → LitPairs (some (.Constant (.str a) j p) :: ks) (.Constant (.str b) k q :: vs) ((a, b) :: ps)

/-- values that are these pairs -/
inductive PairsAre : List (Value × Value) → List (Str × Str) → Prop
  | nil : PairsAre [] []
  | cons {a b : Str} {t u : Tok} {vs : List (Value × Value)} {ps : List (Str × Str)} : PairsAre vs ps → PairsAre ((.str a t, .str b u) :: vs) ((a, b) :: ps)
theorem PairsAre.keys : ∀ {vs : List (Value × Value)} {ps : List (Str × Str)}, PairsAre vs ps → allStrKeys vs = true ∧ (strPairs vs).map (·.1) = ps.map (·.1)
  | _, _, .nil => ⟨rfl, rfl⟩
  | _, _, .cons h => ⟨h.keys.1, congrArg (List.cons _) h.keys.2⟩
theorem PairsAre.at {k v : Str} : ∀ {vs : List (Value × Value)} {ps : List (Str × Str)}, PairsAre vs ps → (ps.find? (fun q => q.1 = k)).map (·.2) = some v → ∃ t : Tok, valueAt (strPairs vs) k = some (.str v t)
  | _, _, .nil, h => by cases h
  | _, _, .cons (a := a) (b := b) (t := t) (u := u) (vs := vs) (ps := ps) h, hk => by
    rw [List.find?_cons] at hk
    unfold valueAt
    show ∃ t : Tok, (List.find? _ ((a, Value.str b u) :: strPairs vs)).map (·.2) = _
    rw [List.find?_cons]
    by_cases e : a = k
    · simp only [e, decide_true, Option.map_some, Option.some.injEq] at hk ⊢
      exact ⟨u, by rw [hk]⟩
    · simp only [e, decide_false] at hk ⊢
      exact h.at hk

section
variable {prog : Program} {w : World} {A : Around} {E : Value → Shared → Prop} {s : Shared} {env : Env} {h₀ : Heap} {L : Addr} {m : Str → Option Value} {news : List (Addr × Obj)}
theorem pairs_strs {pos : Pos} : ∀ {ks : List (Option Expr)} {vs : List Expr} {ps : List (Str × Str)} {s : Shared} {Q : List (Value × Value) → Shared → Prop}, LitPairs ks vs ps →
    (∀ r tk, PairsAre r ps → Q r { s with toks := tk }) → wpAny (model prog w) A (evalPairs (pairTrees ks vs env pos)) Q E s
  | _, _, _, s, Q, .nil, h => pairTrees_nil_walk (h [] s.toks .nil)
  | _, _, _, s, Q, .cons (a := a) (b := b) hp, h => by
    refine pairTrees_cons_walk (Constant_str (Constant_str ?_))
    exact pairs_strs hp (fun r tk hr => h _ _ (.cons hr))
theorem dict_strs {keys : List (Option Expr)} {values : List Expr} {ps : List (Str × Str)} {pos : Pos} {Q : Value → Shared → Prop} (F : Fr h₀ L s.heap m) (N : News h₀ L s.heap news) (hbig : h₀.NoLimit) (hp : LitPairs keys values ps)
    (hnd : (ps.map (·.1)).Nodup)
    (h : ∀ D h' o tk kvs, Fr h₀ L h' m → News h₀ L h' ((D, o) :: news) → (∀ p ∈ news, p.1 < D) → o.IsDictOf (PySem.strKind prog w) kvs → (∀ k v, (ps.find? (fun q => q.1 = k)).map (·.2) = some v → ∃ t : Tok, valueAt kvs k = some (.str v t)) →
      Q (.ref D) { s with heap := h', toks := tk })
    (hl : strLits keys = true := by rfl) (hall : keys.all (·.isSome) = true := by rfl) (hlen : keys.length = values.length := by rfl) (h0 : keys ≠ [] := by exact List.cons_ne_nil _ _) (h15 : keys.length ≤ 15 := by exact Nat.le_of_ble_eq_true rfl) :
    wpAny (model prog w) A (eval (.Dict keys values pos) env) Q E s := by
  refine kdn_str hl F N hbig hall hlen h0 h15 (fun d h' o F' N' hlt _ hd => ?_)
  refine pairs_strs hp (fun r tk hr => ?_)
  exact kdn_made_str (s := { s with heap := h', toks := tk }) F' N' (.head (fun p hp => Nat.ne_of_lt (hlt p hp))) hd hr.keys.1 (hr.keys.2 ▸ hnd) (fun h'' o' F'' N'' hd' => h d h'' o' _ _ F'' N'' hlt hd' (fun k v hk => hr.at hk))
end
end Mine

/-! # M20a -/
namespace Mine

def nameOf (c : Nat) : List Nat :=
  if c = 38 then [97, 109, 112] else if c = 60 then [108, 116] else if c = 62 then [103, 116] else if c = 34 then [113, 117, 111, 116] else if c = 13 then [35, 120, 68] else if c = 10 then [35, 120, 65] else [35, 120, 57]
abbrev seven : List Nat := [38, 60, 62, 34, 13, 10, 9]
def spl (sg : List Nat) (c : Nat) : List Nat := if c ∈ sg then [38] ++ nameOf c ++ [59] else [c]
theorem spl_len (sg : List Nat) (c : Nat) : (spl sg c).length ≤ 6 := by
  unfold spl nameOf
  repeat' split
  all_goals simp
abbrev nms : List (Str × Str) := [(Str.ofString "&", Str.ofString "amp"), (Str.ofString "<", Str.ofString "lt"), (Str.ofString ">", Str.ofString "gt"), (Str.ofString "\"", Str.ofString "quot"), (Str.ofString "\r", Str.ofString "#xD"), (Str.ofString "\n", Str.ofString "#xA"), (Str.ofString "\t", Str.ofString "#x9")]
theorem nms_at : ∀ c ∈ seven, (nms.find? (fun q => q.1 = (⟨#[c]⟩ : Str))).map (·.2) = some (tx (nameOf c)) := by decide +kernel
theorem nms_nd : (nms.map (·.1)).Nodup := by decide +kernel

theorem found_tx (sg : List Nat) (c : Nat) : (!(Builtin.Str.occurrences (tx sg) ⟨#[c]⟩ 0 (tx sg).length 1).isEmpty) = decide (c ∈ sg) := by
  have h1 := StrLaws.found_one (tx sg) c
  rw [h1]

theorem join_tx (f : Nat → List Nat) : ∀ l : List Nat, Txt.join (Str.ofString "") (l.map fun c => tx (f c)) = tx (l.flatMap f)
  | [] => rfl
  | [c] => by
    show tx (f c) = _
    simp
  | c :: d :: r => by
    have ih := join_tx f (d :: r)
    have e : Txt.join (Str.ofString "") ((c :: d :: r).map fun c => tx (f c)) = tx (f c) ++ (Str.ofString "") ++ Txt.join (Str.ofString "") ((d :: r).map fun c => tx (f c)) := by
      show Builtin.Str.glued _ _ = _ ++ Builtin.Str.glued _ _
      rw [StrLaws.glued_eq_join, StrLaws.glued_eq_join]; rfl
    rw [e, ih]
    have : Str.ofString "" = tx [] := rfl
    rw [this, tx_app, tx_app]
    simp

end Mine

/-! # M20b -/
namespace Mine

theorem spl_sum (sg : List Nat) : ∀ l : List Nat, (l.map fun c => (spl sg c).length).sum ≤ l.length * 6
  | [] => by simp
  | c :: l => by
    have := spl_sum sg l
    have := spl_len sg c
    simp only [List.map_cons, List.sum_cons, List.length_cons]; omega
theorem swaps_dict {ks : List (Option Expr)} {vs : List Expr} {p : Pos} {tg : Option Expr} {n : Nat} {env : Env} {d : Expr} (e : Expr.Dict ks vs p = d) : swapsWith d tg n env = pure false := by subst e; rfl

section
variable {prog : Program} {w : World} {A : Around} {E : Value → Shared → Prop} {s : Shared} {env : Env} {h₀ : Heap} {L : Addr} {m : Str → Option Value} {news : List (Addr × Obj)}
theorem dict_strs' {keys : List (Option Expr)} {values : List Expr} {ps : List (Str × Str)} {pos : Pos} {d : Expr} {Q : Value → Shared → Prop} (e : Expr.Dict keys values pos = d) (F : Fr h₀ L s.heap m) (N : News h₀ L s.heap news) (hbig : h₀.NoLimit) (hp : LitPairs keys values ps)
    (hnd : (ps.map (·.1)).Nodup) (h0 : strLits keys = true ∧ keys.all (·.isSome) = true ∧ keys.length = values.length ∧ keys ≠ [] ∧ keys.length ≤ 15)
    (h : ∀ D h' o tk kvs, Fr h₀ L h' m → News h₀ L h' ((D, o) :: news) → (∀ p ∈ news, p.1 < D) → o.IsDictOf (PySem.strKind prog w) kvs → (∀ k v, (ps.find? (fun q => q.1 = k)).map (·.2) = some v → ∃ t : Tok, valueAt kvs k = some (.str v t)) →
      Q (.ref D) { s with heap := h', toks := tk }) :
    wpAny (model prog w) A (eval d env) Q E s := by
  subst e
  exact dict_strs F N hbig hp hnd h h0.1 h0.2.1 h0.2.2.1 h0.2.2.2.1 h0.2.2.2.2
end

section
variable {prog : Program} {w : World} {A : Around} {s : Shared} {p : Program} {loose : List Str} {mean : ExcName → Option Value} {mg mb : Str → Option Value} {Q E : Value → Shared → Prop}

theorem C_spelled (X : (Mine.hd.heap_39 w.params).In s.heap) (T : Top p loose mean mg mb s.heap) {l sg : List Nat} {t u : Tok} (hlen : l.length ≤ 1000) (hsg : ∀ c ∈ sg, c ∈ seven)
    (ret : ∀ h' tk t', Kp s.heap h' → Q (.str (tx (l.flatMap (spl sg))) t') { s with heap := h', toks := tk }) :
    wpAny (model prog w) (AtC 390 490) (call (.ref 52) [.str (tx l) t, .str (tx sg) u]) Q E s := by
  refine wpAny_call ?_
  refine' enter_cells (binds := [(Str.ofString "text", Value.str (tx l) t), (Str.ofString "signs", Value.str (tx sg) u)]) X T ?ho ?hcd ?room ?hb ?hki ?hnd ?h ?c2 ?c3 ?c4
  case ho => k_is
  case hcd => k_is
  case room => exact Nat.le_of_ble_eq_true rfl
  case hb => exact BindsTo.of_eq rfl
  case hki => exact rfl
  case hnd => decide +kernel
  case c2 => exact rfl
  case c3 => exact rfl
  case c4 => exact rfl
  intro L h₁ tk cells htk F N hcl
  obtain ⟨oc2, oc, rfl, hoc2, hoc⟩ := CellsAre.two hcl
  clear hcl
  have TR := topRead_of T
  replace hoc : oc.data = .cell (some (Value.str (tx sg) u)) := hoc
  generalize hK : Expr.Dict _ _ _ = dexp
  refine wpAny_execs_cons (wpAny_Assign_Name ?_ (swaps_dict hK))
  refine dict_strs' (ps := nms) hK F N T.nolimit ?_ nms_nd ?_ (fun D h₂ o tk₂ kvs F₂ N₂ hD hkv hat => ?_)
  · exact .cons (.cons (.cons (.cons (.cons (.cons (.cons .nil))))))
  · exact ⟨rfl, rfl, rfl, List.cons_ne_nil _ _, Nat.le_of_ble_eq_true rfl⟩
  have hD1 : D ≠ L + 1 + 1 := Ne.symm (Nat.ne_of_lt (hD (L + 1 + 1, oc2) (by simp)))
  refine storeX_C F₂ N₂ rfl (.tail (p := (D, _)) hD1 (.head (fun q hq => by rw [List.mem_singleton.mp hq]; exact Nat.ne_of_lt (Nat.lt_succ_self _)))) hoc2 (fun h₃ o3 F₃ N₃ ho3 => ?_) rfl rfl
  refine wpAny_execs_cons (wpAny_Return_some ?_)
  refine MethodCall_ (Constant_str ?_) rfl
  refine GM.join ?_
  refine callWith_method1 ?_
  refine spliced_more (comp_txt (fun c => tx (spl sg c)) rfl rfl (by decide) rfl (by decide) rfl ?_)
  refine nameX_L F₃ rfl ⟨l, t, rfl, by omega, ?_, ?_⟩ rfl rfl (by decide)
  · intro C c uc s₃ m₃ E' hC hc hns hmx hkp htk
    have hcell : s₃.heap.IsCell (L + 1) (some (Value.str (tx sg) u)) := ⟨oc, hkp _ _ (N₃ (L + 1, oc) (.tail _ (.tail _ (.head _)))).1, hoc⟩
    have hcell2 : s₃.heap.IsCell (L + 1 + 1) (some (Value.ref D)) := ⟨o3, hkp _ _ (N₃ (L + 1 + 1, o3) (.tail _ (.head _))).1, ho3⟩
    refine IfExp_ (wpAny_isTrue_Compare1 (wpAny_Name (wpAny_loadName_local rfl rfl hns hmx ?_) (by decide)) rfl)
    refine wpAny_Name (wpAny_loadName_cell rfl rfl rfl hcell ?_) (by decide)
    refine PyProof.Rows.in_str (wpAny_truthy_bool ?_)
    rw [found_tx]
    by_cases hm : c ∈ sg
    · rw [decide_eq_true hm]
      show wpAny _ _ _ _ _ _
      refine wpAny_BinOp (wpAny_BinOp (Constant_str ?_))
      refine Subscript_ (wpAny_Name (wpAny_loadName_cell rfl rfl rfl hcell2 (wpAny_Name (wpAny_loadName_local rfl rfl hns hmx ?_) (by decide))) (by decide))
      obtain ⟨tv, hv⟩ := hat ⟨#[c]⟩ (tx (nameOf c)) (nms_at c (hsg c hm))
      refine kdt_tail (knd := PySem.strKind _ _) (N₃.grown hkp) (List.mem_cons_self ..) hkv (kdt_getItem (knd := PySem.strKind _ _) (N₃.grown hkp) (List.mem_cons_self ..) hkv (strKind_is _ _ _ _) hv ?_)
      have hnl : (nameOf c).length ≤ 4 := by
        have := spl_len sg c
        rw [spl, if_pos hm] at this
        simp at this; omega
      refine add_tx (a := [38]) (b := nameOf c) rfl rfl (by simp; omega) (fun t1 k1 => ?_)
      refine Constant_str ?_
      refine add_tx (a := [38] ++ nameOf c) (b := [59]) rfl rfl (by simp; omega) (fun t2 k2 => ?_)
      refine ⟨⟨t2, ?_⟩, s₃.heap, _, rfl, fun _ _ e => e⟩
      rw [spl, if_pos hm]
    · rw [decide_eq_false hm]
      show wpAny _ _ _ _ _ _
      refine wpAny_Name (wpAny_loadName_local rfl rfl hns hmx ?_) (by decide)
      refine ⟨⟨uc, ?_⟩, s₃.heap, _, rfl, fun _ _ e => e⟩
      show Value.str (tx [c]) uc = .str (tx (spl sg c)) uc
      rw [spl, if_neg hm]
  · intro D2 h₄ tk₄ n₄ ys hkp hD2 hg hys
    refine spliced_none ?_
    refine PyProof.Rows.join_listW (items := ys.toArray) ⟨_, hg, rfl, _, rfl⟩ (by simpa using hys) (by decide) ?_ (fun t' k => ?_)
    · have hw := spl_sum sg l
      rw [List.map_map, List.length_map]
      have e : (List.map ((fun x => x.length) ∘ fun c => tx (spl sg c)) l) = l.map fun c => (spl sg c).length := by
        apply List.map_congr_left; intro c _; exact tx_len _
      rw [e]; omega
    · rw [join_tx]
      exact ret _ _ _ (fun b o e => hkp b o (F₃.keep b o e))
end
end Mine

/-! # M21 -/
namespace Mine

/-- a display of texts -/
inductive LitStrs : List Expr → List Str → Prop
  | nil : LitStrs [] []
  | cons {a : Str} {j : Nat} {p : Pos} {es : List Expr} {ps : List Str} : LitStrs es ps → LitStrs (.Constant (.str a) j p :: es) (a :: ps)
theorem LitStrs.len : ∀ {es : List Expr} {ps : List Str}, LitStrs es ps → es.length = ps.length
  | _, _, .nil => rfl
  | _, _, .cons h => congrArg (· + 1) h.len
theorem strs_at : ∀ {vs : List Value} {ps : List Str}, StrsAre vs ps → ∀ (i : Nat) (a : Str), ps[i]? = some a → ∃ t : Tok, vs[i]? = some (.str a t)
  | _, _, .nil, _, _, h => by cases h
  | _, _, .cons y t r, 0, a, h => ⟨t, by simpa using h⟩
  | _, _, .cons y t r, i + 1, a, h => by
    obtain ⟨t', h'⟩ := strs_at r i a (by simpa using h)
    exact ⟨t', by simpa using h'⟩
theorem strs_len : ∀ {vs : List Value} {ps : List Str}, StrsAre vs ps → vs.length = ps.length
  | _, _, .nil => rfl
  | _, _, .cons _ _ r => congrArg (· + 1) (strs_len r)
section
variable {prog : Program} {w : World} {A : Around} {E : Value → Shared → Prop} {s : Shared} {env : Env} {h₀ : Heap} {L : Addr} {m : Str → Option Value} {news : List (Addr × Obj)}
theorem strs_spliced {pos : Pos} : ∀ {es : List Expr} {ps : List Str} {s : Shared} {Q : List Value → Shared → Prop}, LitStrs es ps → (∀ vs tk, StrsAre vs ps → Q vs { s with toks := tk }) → wpAny (model prog w) A (spliced (backTo pos (starEach es env))) Q E s
  | _, _, s, Q, .nil, h => spliced_none (h [] s.toks .nil)
  | _, _, s, Q, .cons hp, h => spliced_more (Constant_str (strs_spliced hp (fun vs tk hr => h _ _ (.cons _ _ hr))))
theorem swaps_list {es : List Expr} {p : Pos} {tg : Option Expr} {n : Nat} {env : Env} {d : Expr} (e : Expr.List es p = d) : swapsWith d tg n env = pure false := by subst e; rfl
theorem list_strs {es : List Expr} {ps : List Str} {pos : Pos} {d : Expr} {Q : Value → Shared → Prop} (e : Expr.List es pos = d) (F : Fr h₀ L s.heap m) (N : News h₀ L s.heap news) (hp : LitStrs es ps) (hsz : ps.length ≤ 1000)
    (h : ∀ D h' vs tk, Fr h₀ L h' m → News h₀ L h' ((D, listOf vs.toArray 0) :: news) → (∀ p ∈ news, p.1 < D) → StrsAre vs ps → Q (.ref D) { s with heap := h', toks := tk }) : wpAny (model prog w) A (eval d env) Q E s := by
  subst e
  refine List_ (strs_spliced hp (fun vs tk hv => ?_))
  exact newList_K (s := { s with toks := tk }) F N (fun D h' F' N' hD => h D h' vs _ F' N' hD hv) (by rw [strs_len hv, sizeLine_eq]; omega)
end

def pc : List (List Nat) := [[38], [60], [62], [34], [13], [10], [9], [97], [38, 108, 116, 59], [93, 93, 62], [32], [15360], [15420], [8364], [65279], [128512]]
def drw (x : Int) : List Nat := pc.getD (x % 16).toNat [] ++ pc.getD (x / 16 % 16).toNat []
abbrev pcS : List Str := [Str.ofString "&", Str.ofString "<", Str.ofString ">", Str.ofString "\"", Str.ofString "\r", Str.ofString "\n", Str.ofString "\t", Str.ofString "a", Str.ofString "&lt;", Str.ofString "]]>", Str.ofString " ", Str.ofString "㰀", Str.ofString "㰼", Str.ofString "€", Str.ofString "\ufeff", Str.ofString "😀"]
theorem pcS_eq : pcS = pc.map tx := by decide +kernel
theorem pc_len : pc.length = 16 := rfl
theorem pc_short : ∀ a ∈ pc, a.length ≤ 4 ∧ ∀ c ∈ a, c < 1114112 := by decide +kernel
theorem pc_at (i : Nat) (h : i < 16) : pcS[i]? = some (tx (pc.getD i [])) := by
  rw [pcS_eq, List.getElem?_map, List.getD_eq_getElem?_getD, List.getElem?_eq_getElem (by rw [pc_len]; exact h)]; rfl
end Mine

/-! # M22 -/
namespace Mine

theorem paired_drw : ∀ {vs ys : List Value} {ns : List Int}, IntsAre vs ns → Paired (fun v y => ∃ x t u, v = Value.int x t ∧ y = Value.str (tx (drw x)) u) vs ys → StrsAre ys (ns.map fun x => tx (drw x))
  | _, _, _, .nil, h => by cases h; exact .nil
  | _, _, _, .cons n t r, h => by
    cases h with
    | cons hv hr =>
      obtain ⟨x, t2, u, e, rfl⟩ := hv
      injection e with e1 _
      subst e1
      exact .cons _ _ (paired_drw r hr)

theorem pc_lens (i : Nat) : (pc.getD i []).length ≤ 4 := by
  rw [List.getD_eq_getElem?_getD]
  cases h : pc[i]? with
  | none => simp
  | some a => exact (pc_short a (List.mem_of_getElem? h)).1

section
variable {prog : Program} {w : World} {A : Around} {s : Shared} {p : Program} {loose : List Str} {mean : ExcName → Option Value} {mg mb : Str → Option Value} {Q E : Value → Shared → Prop}

theorem C_drawn (X : (Mine.hd.heap_39 w.params).In s.heap) (T : Top p loose mean mg mb s.heap) {lp : Addr} {vs : List Value} {ns : List Int} (hl : s.heap.IsList lp vs.toArray) (hi : IntsAre vs ns) (hlen : ns.length ≤ 1000)
    (ret : ∀ D h' tk ys n, s.heap.get? D = none → h'.get? D = some (listOf ys.toArray n) → StrsAre ys ((ns.take 3 ++ [56, 203]).map fun x => tx (drw x)) → Kp s.heap h' → Q (.ref D) { s with heap := h', toks := tk }) :
    wpAny (model prog w) (AtC 390 490) (call (.ref 47) [.ref lp]) Q E s := by
  refine wpAny_call ?_
  refine' enter_cells (binds := [(Str.ofString "script", Value.ref lp)]) X T ?ho ?hcd ?room ?hb ?hki ?hnd ?h ?c2 ?c3 ?c4
  case ho => k_is
  case hcd => k_is
  case room => exact Nat.le_of_ble_eq_true rfl
  case hb => exact BindsTo.of_eq rfl
  case hki => exact rfl
  case hnd => decide +kernel
  case c2 => exact rfl
  case c3 => exact rfl
  case c4 => exact rfl
  intro L h₁ tk cells htk F N hcl
  obtain ⟨oc, rfl, hoc⟩ := CellsAre.one hcl
  clear hcl
  have TR := topRead_of T
  generalize hK : Expr.List (_ :: _ :: _ :: _) _ = lexp
  refine wpAny_execs_cons (wpAny_Assign_Name ?_ (swaps_list hK))
  refine list_strs (ps := pcS) hK F N ?_ (by decide) (fun D h₂ ps tk₂ F₂ N₂ hD hps => ?_)
  · exact .cons (.cons (.cons (.cons (.cons (.cons (.cons (.cons (.cons (.cons (.cons (.cons (.cons (.cons (.cons (.cons .nil)))))))))))))))
  have hD1 : D ≠ L + 1 := Ne.symm (Nat.ne_of_lt (hD (L + 1, oc) (by simp)))
  refine storeX_C F₂ N₂ rfl (.tail (p := (D, _)) hD1 (.head (fun q hq => (nomatch hq)))) hoc (fun h₃ o3 F₃ N₃ ho3 => ?_) rfl rfl
  clear hK
  refine wpAny_execs_cons (wpAny_Return_some ?_)
  refine comp_lst (fun v y => ∃ x t u, v = Value.int x t ∧ y = Value.str (tx (drw x)) u) rfl rfl (by decide) rfl (by decide) rfl ?_
  refine wpAny_BinOp (Subscript_ (nameX_L F₃ rfl (wpAny_Slice (wpAny_evalPart_none (wpAny_evalPart_some (wpAny_Constant_int (wpAny_evalPart_none ?_))))) rfl rfl (by decide)))
  refine slice_list F₃ N₃ (F₃.lst hl) .none (.int _ _) (fun h₄ F₄ N₄ => ?_) (hsz := by rw [List.size_toArray, hi.length, sizeLine_eq]; omega)
  have hs3 := slice_ints_uptoW hi (y := 3) (by decide)
  replace hs3 : IntsAre (slicePick vs.toArray none (some 3) none).toList (ns.take 3) := hs3
  generalize (slicePick vs.toArray none (some 3) none) = sv at N₄ hs3
  refine List_ (spliced_more (wpAny_Constant_int (spliced_more (wpAny_Constant_int (spliced_none ?_)))))
  refine newList_K F₄ N₄ (fun D2 h₅ F₅ N₅ hD2 => ?_) (Nat.le_of_ble_eq_true rfl)
  have hl1 := News.isList N₅ (List.mem_cons_of_mem _ (List.mem_cons_self ..))
  have hl2 := News.isList N₅ (List.mem_cons_self ..)
  refine add_lists_ints (vs := sv.toList) (ns := ns.take 3) (ms := [56, 203]) F₅ N₅ hl1 hl2 hs3 (.cons _ _ (.cons _ _ .nil)) (fun h₆ F₆ N₆ hi6 => ?_) (by rw [sizeLine_eq]; simp; omega)
  have hl6 := News.isList N₆ (List.mem_cons_self ..)
  have N₇ : News s.heap L h₆ ((D, listOf ps.toArray 0) :: [(L + 1, o3)]) := fun q hq => N₆ q (List.mem_cons_of_mem _ (List.mem_cons_of_mem _ (List.mem_cons_of_mem _ hq)))
  clear N₄ N₅ N₆ hl1 hl2
  generalize sv.toList ++ [Value.int 56 _, Value.int 203 _] = us at hl6 hi6 ⊢
  have hul : us.length = (ns.take 3 ++ [56, 203]).length := hi6.length
  refine ⟨_, us, rfl, hl6, by rw [hul]; simp; omega, ?_, ?_⟩
  · intro C v s₃ m₃ E' hC hmem hns hmx hkp htk'
    obtain ⟨i', hi'⟩ := List.getElem?_of_mem hmem
    obtain ⟨k, tk', rfl, hk⟩ := hi6.at i' v hi'
    have hcell : s₃.heap.IsCell (L + 1) (some (.ref D)) := ⟨o3, hkp _ _ (N₇ (L + 1, o3) (.tail _ (.head _))).1, ho3⟩
    have hld := News.isList (N₇.grown hkp) (List.mem_cons_self ..)
    have e1 : k.fmod 16 = k % 16 := Int.fmod_eq_emod_of_nonneg _ (by decide)
    have e2 : (k.fdiv 16).fmod 16 = k / 16 % 16 := by
      rw [Int.fdiv_eq_ediv_of_nonneg _ (by decide), Int.fmod_eq_emod_of_nonneg _ (by decide)]
    obtain ⟨t1, ht1⟩ := strs_at hps (k % 16).toNat _ (pc_at _ (by omega))
    obtain ⟨t2, ht2⟩ := strs_at hps (k / 16 % 16).toNat _ (pc_at _ (by omega))
    refine wpAny_BinOp (Subscript_ (wpAny_Name (wpAny_loadName_cell rfl rfl rfl hcell ?_) (by decide)))
    refine wpAny_BinOp (wpAny_Name (wpAny_loadName_local rfl rfl hns hmx (wpAny_Constant_int (mod_int' (by decide) ?_))) (by decide))
    rw [e1]
    refine item_litK hld (by omega) (by omega) ht1 ?_
    refine Subscript_ (wpAny_Name (wpAny_loadName_cell rfl rfl rfl hcell ?_) (by decide))
    refine wpAny_BinOp (wpAny_BinOp (wpAny_Name (wpAny_loadName_local rfl rfl hns hmx (wpAny_Constant_int (floordiv_int (by decide) (wpAny_Constant_int (mod_int' (by decide) ?_)) (Or.inl (PyProof.noPylong_small (by decide)))))) (by decide)))
    rw [e2]
    refine item_litK hld (by omega) (by omega) ht2 ?_
    refine add_tx rfl rfl ?_ (fun t3 k3 => ?_)
    · have z1 := pc_lens (k % 16).toNat
      have z2 := pc_lens (k / 16 % 16).toNat
      omega
    · exact ⟨⟨k, tk', t3, rfl, rfl⟩, s₃.heap, _, rfl, fun _ _ e => e⟩
  · intro D5 h₈ tk₈ n₈ ys hkp hD5 hg5 hpr
    refine ret D5 h₈ _ ys n₈ ?_ hg5 (paired_drw hi6 hpr) (fun b o e => hkp b o (F₆.keep b o e))
    cases q : s.heap.get? D5 with
    | none => rfl
    | some o => have := F₆.keep D5 o q; rw [hD5] at this; cases this
end
end Mine

/-! # M23 -/
namespace Mine

/-! ## where a sign stands, and the cuts -/
def posn (c : Nat) : List Nat → Nat → List Nat
  | [], _ => []
  | d :: l, k => if d = c then k :: posn c l (k + 1) else posn c l (k + 1)
theorem posn_app (c : Nat) : ∀ (a b : List Nat) (k : Nat), posn c (a ++ b) k = posn c a k ++ posn c b (k + a.length)
  | [], b, k => by simp [posn]
  | d :: a, b, k => by
    have ih := posn_app c a b (k + 1)
    have e : k + (d :: a).length = k + 1 + a.length := by simp; omega
    rw [e]
    show (if d = c then k :: posn c (a ++ b) (k + 1) else posn c (a ++ b) (k + 1)) = (if d = c then k :: posn c a (k + 1) else posn c a (k + 1)) ++ _
    rw [ih]; split <;> rfl
theorem posn_free (c : Nat) : ∀ (a : List Nat) (k : Nat), c ∉ a → posn c a k = []
  | [], _, _ => rfl
  | d :: a, k, h => by
    have h1 : d ≠ c := fun e => h (by rw [e]; exact .head _)
    show (if d = c then _ else posn c a (k + 1)) = []
    rw [if_neg h1]; exact posn_free c a _ (fun q => h (.tail _ q))

theorem subAt_tx (l : List Nat) (c i : Nat) : (i + 1 ≤ l.length ∧ Builtin.Str.subAt (tx l) ⟨#[c]⟩ i = true) ↔ l[i]? = some c := by
  unfold Builtin.Str.subAt
  constructor
  · rintro ⟨h, h2⟩
    have h3 : l[i]? = some l[i] := List.getElem?_eq_getElem (by omega)
    rw [h3]
    have h4 := eq_of_beq h2
    have h5 := congrArg (fun a => a[0]?) h4
    simp [Str.length] at h5
    rw [h3] at h5; exact h5
  · intro h
    have hl : i < l.length := by
      rcases Nat.lt_or_ge i l.length with q | q
      · exact q
      · rw [List.getElem?_eq_none q] at h; cases h
    refine ⟨hl, ?_⟩
    have h3 : l[i] = c := by rw [List.getElem?_eq_getElem hl] at h; injection h
    apply beq_iff_eq.mpr
    apply Array.ext'
    show ((tx l).cps.extract i (i + 1)).toList = [c]
    simp only [Array.toList_extract, List.extract_eq_take_drop]
    have : i + 1 - i = 1 := by omega
    rw [this, List.drop_eq_getElem_cons hl]
    simp [h3]
theorem occ_run (l : List Nat) (c lim : Nat) : ∀ (n k : Nat) (st : Array Nat × Nat), l.length + 1 - k = n → st.2 ≤ k →
    (forIn (List.range' k n) st (StrLaws.occBody (tx l) ⟨#[c]⟩ (tx l).length lim)).run.fst.toList = st.1.toList ++ (posn c (l.drop k) k).take (lim - st.1.size)
  | 0, k, st, hn, hf => by
    have : l.drop k = [] := List.drop_eq_nil_of_le (by omega)
    rw [this]; simp [posn]
  | n + 1, k, st, hn, hf => by
    rw [List.range'_succ, List.forIn_cons]
    unfold StrLaws.occBody
    have hiff := subAt_tx l c k
    have hlen : (tx l).length = l.length := tx_len l
    have hone : (⟨#[c]⟩ : Str).length = 1 := rfl
    rw [hlen, hone]
    by_cases hc : l[k]? = some c
    · have hk : k < l.length := by
        rcases Nat.lt_or_ge k l.length with q | q
        · exact q
        · rw [List.getElem?_eq_none q] at hc; cases hc
      have hd : l.drop k = c :: l.drop (k + 1) := by
        rw [List.drop_eq_getElem_cons hk]
        have : l[k] = c := by rw [List.getElem?_eq_getElem hk] at hc; injection hc
        rw [this]
      have hp : posn c (l.drop k) k = k :: posn c (l.drop (k + 1)) (k + 1) := by rw [hd]; show (if c = c then _ else _) = _; rw [if_pos rfl]
      obtain ⟨h1, h2⟩ := hiff.mpr hc
      by_cases hs : st.1.size < lim
      · rw [if_pos ⟨⟨⟨hs, hf⟩, h1⟩, h2⟩]
        have ih := occ_run l c lim n (k + 1) (st.1.push k, k + 1) (by omega) (Nat.le_refl _)
        unfold StrLaws.occBody at ih
        rw [hlen, hone] at ih
        refine ih.trans ?_
        rw [hp]
        have e : lim - st.1.size = (lim - (st.1.push k).size) + 1 := by simp; omega
        rw [e, List.take_succ_cons]
        simp
      · rw [if_neg (fun q => hs q.1.1.1)]
        have ih := occ_run l c lim n (k + 1) st (by omega) (by omega)
        unfold StrLaws.occBody at ih
        rw [hlen, hone] at ih
        refine ih.trans ?_
        have e : lim - st.1.size = 0 := by omega
        rw [e]; simp
    · rw [if_neg (fun q => hc (hiff.mp ⟨q.1.2, q.2⟩))]
      have ih := occ_run l c lim n (k + 1) st (by omega) (by omega)
      unfold StrLaws.occBody at ih
      rw [hlen, hone] at ih
      refine ih.trans ?_
      congr 2
      rcases Nat.lt_or_ge k l.length with hk | hk
      · rw [List.drop_eq_getElem_cons hk]
        show _ = (if l[k] = c then _ else _)
        rw [if_neg]
        intro q; exact hc (by rw [List.getElem?_eq_getElem hk, q])
      · rw [List.drop_eq_nil_of_le hk, List.drop_eq_nil_of_le (by omega)]; rfl
theorem occ_posn (l : List Nat) (c lim : Nat) : Builtin.Str.occurrences (tx l) ⟨#[c]⟩ 0 (tx l).length lim = (posn c l 0).take lim := by
  rw [StrLaws.occ_eq]
  have h := occ_run l c lim (l.length + 1) 0 (#[], 0) (by omega) (Nat.le_refl _)
  have e : (tx l).length + 1 - 0 = l.length + 1 := by rw [tx_len]; omega
  rw [e]
  refine h.trans ?_
  simp
theorem strSub_tx (l : List Nat) (i j : Nat) : Builtin.Str.strSub (tx l) i j = tx ((l.take j).drop i) := by
  unfold Builtin.Str.strSub
  congr 1
  apply Array.ext'
  simp [List.drop_take]
theorem kind_le (l : List Nat) : 1 ≤ Builtin.Str.strKind (tx l) := by
  unfold Builtin.Str.strKind
  split
  · exact Nat.le_refl _
  · split <;> decide
theorem no_cannot (l : List Nat) (c : Nat) (hc : c < 256) (hl : 1 ≤ l.length) : (decide ((tx l).length < (⟨#[c]⟩ : Str).length) || decide (Builtin.Str.strKind (tx l) < Builtin.Str.strKind ⟨#[c]⟩)) = false := by
  have h1 : Builtin.Str.strKind ⟨#[c]⟩ = 1 := by
    unfold Builtin.Str.strKind
    rw [if_pos]
    simp [hc]
  rw [h1, tx_len]
  have h2 := kind_le l
  have h3 : (⟨#[c]⟩ : Str).length = 1 := rfl
  rw [h3]
  rw [Bool.or_eq_false_iff]
  exact ⟨decide_eq_false (by omega), decide_eq_false (by omega)⟩
/-- cut once -/
theorem splitMax_one (a b : List Nat) (c : Nat) (hc : c < 256) (ha : c ∉ a) : Txt.splitMax (tx (a ++ c :: b)) ⟨#[c]⟩ 1 = [tx a, tx b] := by
  unfold Txt.splitMax
  rw [no_cannot _ c hc (by simp; omega), if_neg Bool.false_ne_true]
  have e : Builtin.Str.occurrences (tx (a ++ c :: b)) ⟨#[c]⟩ 0 (tx (a ++ c :: b)).length (limitOf (tx (a ++ c :: b)) 1) = [a.length] := by
    rw [occ_posn, posn_app, posn_free c a 0 ha]
    show List.take (limitOf _ 1) ([] ++ (if c = c then _ else _)) = _
    rw [if_pos rfl]
    show List.take 1 _ = _
    simp
  rw [e, if_neg (by simp), StrLaws.partsBetween_eq]
  show [Builtin.Str.strSub _ 0 a.length, Builtin.Str.strSub _ (a.length + 1) _] = _
  rw [strSub_tx, strSub_tx, tx_len]
  congr 2
  · simp
  · congr 2
    simp [List.take_of_length_le, List.drop_append]
/-- cut twice -/
theorem splitMax_two (a b r : List Nat) (c : Nat) (hc : c < 256) (ha : c ∉ a) (hb : c ∉ b) : Txt.splitMax (tx (a ++ c :: (b ++ c :: r))) ⟨#[c]⟩ 2 = [tx a, tx b, tx r] := by
  unfold Txt.splitMax
  rw [no_cannot _ c hc (by simp; omega), if_neg Bool.false_ne_true]
  have e : Builtin.Str.occurrences (tx (a ++ c :: (b ++ c :: r))) ⟨#[c]⟩ 0 (tx (a ++ c :: (b ++ c :: r))).length (limitOf (tx (a ++ c :: (b ++ c :: r))) 2) = [a.length, a.length + 1 + b.length] := by
    rw [occ_posn, posn_app, posn_free c a 0 ha]
    show List.take (limitOf _ 2) ([] ++ (if c = c then _ :: posn c (b ++ c :: r) _ else _)) = _
    rw [if_pos rfl, posn_app, posn_free c b _ hb]
    show List.take 2 ([] ++ _ :: ([] ++ (if c = c then _ else _))) = _
    rw [if_pos rfl]
    simp
  rw [e, if_neg (by simp), StrLaws.partsBetween_eq]
  show [Builtin.Str.strSub _ 0 a.length, Builtin.Str.strSub _ (a.length + 1) (a.length + 1 + b.length), Builtin.Str.strSub _ (a.length + 1 + b.length + 1) _] = _
  rw [strSub_tx, strSub_tx, strSub_tx, tx_len]
  have e1 : ((a ++ c :: (b ++ c :: r)).take a.length).drop 0 = a := by simp
  have e2 : ((a ++ c :: (b ++ c :: r)).take (a.length + 1 + b.length)).drop (a.length + 1) = b := by
    have : a ++ c :: (b ++ c :: r) = (a ++ [c]) ++ b ++ (c :: r) := by simp
    have h1 : a.length + 1 + b.length = ((a ++ [c]) ++ b).length := by simp; omega
    have h2 : a.length + 1 = (a ++ [c]).length := by simp
    rw [this, h1, List.take_left, h2, List.drop_left]
  have e3 : ((a ++ c :: (b ++ c :: r)).take (a ++ c :: (b ++ c :: r)).length).drop (a.length + 1 + b.length + 1) = r := by
    have : a ++ c :: (b ++ c :: r) = ((a ++ [c]) ++ b ++ [c]) ++ r := by simp
    have h1 : a.length + 1 + b.length + 1 = ((a ++ [c]) ++ b ++ [c]).length := by simp; omega
    rw [List.take_length, this, h1, List.drop_left]
  rw [e1, e2, e3]
/-- cut everywhere -/
def splitL (c : Nat) : List Nat → List (List Nat)
  | [] => [[]]
  | d :: l => if d = c then [] :: splitL c l else (d :: (splitL c l).headD []) :: (splitL c l).tail
theorem splitL_cut (c : Nat) : ∀ (p m : List Nat), c ∉ p → splitL c (p ++ c :: m) = p :: splitL c m
  | [], m, _ => by show (if c = c then _ else _) = _; rw [if_pos rfl]
  | d :: p, m, h => by
    have h1 : d ≠ c := fun e => h (by rw [e]; exact .head _)
    have ih := splitL_cut c p m (fun q => h (.tail _ q))
    show (if d = c then _ else (d :: (splitL c (p ++ c :: m)).headD []) :: (splitL c (p ++ c :: m)).tail) = _
    rw [if_neg h1, ih]; rfl
theorem splitL_free (c : Nat) : ∀ (p : List Nat), c ∉ p → splitL c p = [p]
  | [], _ => rfl
  | d :: p, h => by
    have h1 : d ≠ c := fun e => h (by rw [e]; exact .head _)
    have ih := splitL_free c p (fun q => h (.tail _ q))
    show (if d = c then _ else (d :: (splitL c p).headD []) :: (splitL c p).tail) = _
    rw [if_neg h1, ih]; rfl
theorem splitL_of_join (c : Nat) : ∀ (ps : List Str), ps ≠ [] → (∀ p ∈ ps, c ∉ p.cps.toList) → splitL c (Str.join ⟨#[c]⟩ ps).cps.toList = ps.map (·.cps.toList)
  | [], h, _ => absurd rfl h
  | [p], _, h => splitL_free c _ (h p (List.mem_singleton.mpr rfl))
  | p :: q :: r, _, h => by
    have ih := splitL_of_join c (q :: r) (List.cons_ne_nil _ _) fun a ha => h a (List.mem_cons_of_mem _ ha)
    show splitL c (p ++ ⟨#[c]⟩ ++ Str.join ⟨#[c]⟩ (q :: r)).cps.toList = _
    simp only [Str.cps_append, Array.toList_append]
    show splitL c (p.cps.toList ++ [c] ++ _) = _
    rw [List.append_assoc]
    show splitL c (p.cps.toList ++ c :: (Str.join ⟨#[c]⟩ (q :: r)).cps.toList) = _
    rw [splitL_cut c _ _ (h p (List.mem_cons_self ..)), ih]; rfl
theorem split_ne (x y : Str) : Txt.split x y ≠ [] := by
  unfold Txt.split
  split
  · exact List.cons_ne_nil _ _
  · split
    · exact List.cons_ne_nil _ _
    · rw [StrLaws.partsBetween_eq]
      obtain ⟨p, r, e⟩ := StrLaws.partsFrom_ne x y.length 0 (Builtin.Str.occurrences x y 0 x.length (x.length + 1))
      rw [e]; exact List.cons_ne_nil _ _
theorem split_tx (l : List Nat) (c : Nat) : Txt.split (tx l) ⟨#[c]⟩ = (splitL c l).map tx := by
  have h := splitL_of_join c (Txt.split (tx l) ⟨#[c]⟩) (split_ne _ _) (StrLaws.split_free (tx l) c)
  rw [StrLaws.join_split] at h
  have h' : splitL c l = (Txt.split (tx l) ⟨#[c]⟩).map (·.cps.toList) := h
  rw [h', List.map_map]
  have : (tx ∘ fun x : Str => x.cps.toList) = id := by funext x; exact tx_cps x
  rw [this, List.map_id]

/-- what was spelled, cut at the ampersands -/
theorem splitL_pre (c : Nat) : ∀ (p l : List Nat), c ∉ p → splitL c (p ++ l) = (p ++ (splitL c l).headD []) :: (splitL c l).tail
  | [], [], _ => rfl
  | [], d :: l, _ => by
    show splitL c (d :: l) = ((splitL c (d :: l)).headD []) :: (splitL c (d :: l)).tail
    simp only [splitL]; split <;> rfl
  | d :: p, l, h => by
    have h1 : d ≠ c := fun e => h (by rw [e]; exact .head _)
    have ih := splitL_pre c p l (fun q => h (.tail _ q))
    show (if d = c then _ else (d :: (splitL c (p ++ l)).headD []) :: (splitL c (p ++ l)).tail) = _
    rw [if_neg h1, ih]; rfl
theorem name_free : ∀ c ∈ seven, 38 ∉ nameOf c ∧ 59 ∉ nameOf c := by decide
theorem read_law (sg : List Nat) (h38 : 38 ∈ sg) (hsg : ∀ c ∈ sg, c ∈ seven) : ∀ w : List Nat, ∃ (p0 : List Nat) (qs : List (Nat × List Nat)),
    splitL 38 (w.flatMap (spl sg)) = p0 :: qs.map (fun q => nameOf q.1 ++ 59 :: q.2) ∧ (∀ q ∈ qs, q.1 ∈ seven) ∧ p0 ++ qs.flatMap (fun q => q.1 :: q.2) = w
  | [] => ⟨[], [], rfl, (fun _ h => nomatch h), rfl⟩
  | c :: w => by
    obtain ⟨p0, qs, e1, e2, e3⟩ := read_law sg h38 hsg w
    rw [List.flatMap_cons]
    by_cases hm : c ∈ sg
    · refine ⟨[], (c, p0) :: qs, ?_, ?_, ?_⟩
      · rw [spl, if_pos hm]
        show splitL 38 ([] ++ 38 :: ((nameOf c ++ [59]) ++ w.flatMap (spl sg))) = _
        rw [splitL_cut 38 [] _ (by simp), splitL_pre 38 _ _ (by
          have := (name_free c (hsg c hm)).1
          simp [this]), e1]
        simp
      · intro q hq
        rcases List.mem_cons.mp hq with rfl | hq
        · exact hsg c hm
        · exact e2 q hq
      · show c :: p0 ++ qs.flatMap _ = _
        rw [List.cons_append, e3]
    · have hc : c ≠ 38 := fun e => hm (e ▸ h38)
      refine ⟨c :: p0, qs, ?_, e2, ?_⟩
      · rw [spl, if_neg hm, splitL_pre 38 [c] _ (by simp; exact Ne.symm hc), e1]; rfl
      · rw [List.cons_append, e3]
end Mine

/-! # M24 -/
namespace Mine

abbrev rms : List (Str × Str) := [(Str.ofString "amp", Str.ofString "&"), (Str.ofString "lt", Str.ofString "<"), (Str.ofString "gt", Str.ofString ">"), (Str.ofString "quot", Str.ofString "\""), (Str.ofString "#xD", Str.ofString "\r"), (Str.ofString "#xA", Str.ofString "\n"), (Str.ofString "#x9", Str.ofString "\t")]
theorem rms_at : ∀ c ∈ seven, (rms.find? (fun q => q.1 = tx (nameOf c))).map (·.2) = some (tx [c]) := by decide +kernel
theorem rms_nd : (rms.map (·.1)).Nodup := by decide +kernel
theorem amp_eq : Str.ofString "&" = (⟨#[38]⟩ : Str) := by decide +kernel
theorem semi_eq : Str.ofString ";" = (⟨#[59]⟩ : Str) := by decide +kernel

theorem strs_two {vs : List Value} {a b : Str} (h : StrsAre vs [a, b]) : ∃ ta tb : Tok, vs = [.str a ta, .str b tb] := by
  cases h with
  | cons _ ta r => cases r with
    | cons _ tb r2 => cases r2; exact ⟨ta, tb, rfl⟩
theorem strs_three {vs : List Value} {a b c : Str} (h : StrsAre vs [a, b, c]) : ∃ ta tb tc : Tok, vs = [.str a ta, .str b tb, .str c tc] := by
  cases h with
  | cons _ ta r => obtain ⟨tb, tc, rfl⟩ := strs_two r; exact ⟨ta, tb, tc, rfl⟩
section
variable {prog : Program} {w : World} {A : Around} {E : Value → Shared → Prop} {s : Shared} {h₀ : Heap} {L f : Addr} {m : Str → Option Value} {name : Str} {scope : Scope} {cd : Value} {news : List (Addr × Obj)}
/-- x.split(c, 1) into two names -/
theorem cut_two {x a b sep : Str} {c : Nat} {l u v : List Nat} {t0 : Tok} {k j1 j2 : Nat} {p1 p2 p3 p4 p5 p6 p7 p8 p9 : Pos} {Q : Flow → Shared → Prop} (F : Fr h₀ L s.heap m) (N : News h₀ L s.heap news) (hm : m x = some (.str (tx l) t0)) (hl : l = u ++ c :: v) (hsep : sep = ⟨#[c]⟩) (hc : c < 256) (hu : c ∉ u) (hh : A.handled = none) (hlen : l.length ≤ 1000000)
    (h : ∀ h' tk ta tb, Fr h₀ L h' (fun y => if y = b then some (.str (tx v) tb) else if y = a then some (.str (tx u) ta) else m y) → News h₀ L h' news → Q .next { s with heap := h', toks := tk })
    (hk : scope.kind = .function := by rfl) (hx : (envOf name scope L f cd).kindOf x = some .local := by rfl) (ha : (envOf name scope L f cd).kindOf a = some .local := by rfl) (hb : (envOf name scope L f cd).kindOf b = some .local := by rfl) (hd : (x == ("__debug__" : Str)) = false := by decide) {pl : Sem Bool}
    (he : eval (.Call (.Attribute (.Name x p4) (Str.ofString "split") p5) [.Constant (.str sep) j1 p6, .Constant (.int 1) j2 p7] [] p8) (envOf name scope L f cd) = (do
      let ov ← eval (.Name x p4) (envOf name scope L f cd)
      standAt p5.atName
      let (g, first) ← holding [ov] (getMethod ov (Str.ofString "split") pl)
      callWith p8 g first (backTo p8 (starEach [.Constant (.str sep) j1 p6, .Constant (.int 1) j2 p7] (envOf name scope L f cd))) []) := by rfl) :
    wpAny (model prog w) A (exec (.Assign [.Tuple [.Name a p1, .Name b p2] k p3] (.Call (.Attribute (.Name x p4) (Str.ofString "split") p5) [.Constant (.str sep) j1 p6, .Constant (.int 1) j2 p7] [] p8) p9) (envOf name scope L f cd)) Q E s := by
  subst hl hsep
  refine Assign_Tuple ?_ rfl rfl
  refine MethodCall_ (ld F hm ?_ hk hx hd) he
  refine GM.split ?_
  refine callWith_method1 (spliced_more (Constant_str (spliced_more (wpAny_Constant_int (spliced_none ?_)))))
  refine splitN2A F N rfl (by decide) (fun sl h₁ tk₁ esl hsl _ hl₁ F₁ N₁ => ?_) (by rw [tx_len, sizeLine_eq]; omega)
  rw [splitMax_one u v c hc hu] at esl
  rw [esl] at hsl
  obtain ⟨ta, tb, hv⟩ := strs_two hsl
  rw [hv] at hl₁
  refine kun_list F₁ (fun q hq => N₁ q (List.mem_cons_of_mem _ hq)) hl₁ hh rfl rfl (fun h₂ F₂ N₂ => ?_)
  refine assignInOrder_cons (PyProof.Rows.assign_Name (stN F₂ N₂ (fun h₃ F₃ N₃ => ?_) hk ha))
  refine assignInOrder_cons (PyProof.Rows.assign_Name (stN F₃ N₃ (fun h₄ F₄ N₄ => ?_) hk hb))
  exact assignInOrder_nil (h h₄ _ ta tb F₄ N₄)
/-- x.split(c, 2) into three names -/
theorem cut_three {x a b d sep : Str} {c : Nat} {l u v r : List Nat} {t0 : Tok} {k j1 j2 : Nat} {p1 p2 p2' p3 p4 p5 p6 p7 p8 p9 : Pos} {Q : Flow → Shared → Prop} (F : Fr h₀ L s.heap m) (N : News h₀ L s.heap news) (hm : m x = some (.str (tx l) t0)) (hl : l = u ++ c :: (v ++ c :: r)) (hsep : sep = ⟨#[c]⟩) (hc : c < 256) (hu : c ∉ u) (hv : c ∉ v) (hh : A.handled = none) (hlen : l.length ≤ 1000000)
    (h : ∀ h' tk ta tb td, Fr h₀ L h' (fun y => if y = d then some (.str (tx r) td) else if y = b then some (.str (tx v) tb) else if y = a then some (.str (tx u) ta) else m y) → News h₀ L h' news → Q .next { s with heap := h', toks := tk })
    (hk : scope.kind = .function := by rfl) (hx : (envOf name scope L f cd).kindOf x = some .local := by rfl) (ha : (envOf name scope L f cd).kindOf a = some .local := by rfl) (hb : (envOf name scope L f cd).kindOf b = some .local := by rfl) (hdd : (envOf name scope L f cd).kindOf d = some .local := by rfl) (hd : (x == ("__debug__" : Str)) = false := by decide) {pl : Sem Bool}
    (he : eval (.Call (.Attribute (.Name x p4) (Str.ofString "split") p5) [.Constant (.str sep) j1 p6, .Constant (.int 2) j2 p7] [] p8) (envOf name scope L f cd) = (do
      let ov ← eval (.Name x p4) (envOf name scope L f cd)
      standAt p5.atName
      let (g, first) ← holding [ov] (getMethod ov (Str.ofString "split") pl)
      callWith p8 g first (backTo p8 (starEach [.Constant (.str sep) j1 p6, .Constant (.int 2) j2 p7] (envOf name scope L f cd))) []) := by rfl) :
    wpAny (model prog w) A (exec (.Assign [.Tuple [.Name a p1, .Name b p2, .Name d p2'] k p3] (.Call (.Attribute (.Name x p4) (Str.ofString "split") p5) [.Constant (.str sep) j1 p6, .Constant (.int 2) j2 p7] [] p8) p9) (envOf name scope L f cd)) Q E s := by
  subst hl hsep
  refine Assign_Tuple ?_ rfl rfl
  refine MethodCall_ (ld F hm ?_ hk hx hd) he
  refine GM.split ?_
  refine callWith_method1 (spliced_more (Constant_str (spliced_more (wpAny_Constant_int (spliced_none ?_)))))
  refine splitN2A F N rfl (by decide) (fun sl h₁ tk₁ esl hsl _ hl₁ F₁ N₁ => ?_) (by rw [tx_len, sizeLine_eq]; omega)
  rw [splitMax_two u v r c hc hu hv] at esl
  rw [esl] at hsl
  obtain ⟨ta, tb, td, hvv⟩ := strs_three hsl
  rw [hvv] at hl₁
  refine kun_list F₁ (fun q hq => N₁ q (List.mem_cons_of_mem _ hq)) hl₁ hh rfl rfl (fun h₂ F₂ N₂ => ?_)
  refine assignInOrder_cons (PyProof.Rows.assign_Name (stN F₂ N₂ (fun h₃ F₃ N₃ => ?_) hk ha))
  refine assignInOrder_cons (PyProof.Rows.assign_Name (stN F₃ N₃ (fun h₄ F₄ N₄ => ?_) hk hb))
  refine assignInOrder_cons (PyProof.Rows.assign_Name (stN F₄ N₄ (fun h₅ F₅ N₅ => ?_) hk hdd))
  exact assignInOrder_nil (h h₅ _ ta tb td F₅ N₅)
end
end Mine

/-! # M25 -/
namespace Mine

theorem strs_drop : ∀ {vs : List Value} {ps : List Str}, StrsAre vs ps → ∀ k : Nat, StrsAre (vs.drop k) (ps.drop k)
  | _, _, h, 0 => h
  | _, _, .nil, _ + 1 => .nil
  | _, _, .cons _ _ h, k + 1 => strs_drop h k
theorem splitL_count (c : Nat) : ∀ l : List Nat, (splitL c l).length ≤ l.length + 1
  | [] => Nat.le_refl _
  | d :: l => by
    have ih := splitL_count c l
    show (if d = c then _ else _ : List (List Nat)).length ≤ _
    split
    · simp; omega
    · simp; omega
theorem name_len : ∀ c ∈ seven, (nameOf c).length ≤ 4 := by decide

section
variable {prog : Program} {w : World} {A : Around} {s : Shared} {p : Program} {loose : List Str} {mean : ExcName → Option Value} {mg mb : Str → Option Value} {Q E : Value → Shared → Prop}

theorem C_read (X : (Mine.hd.heap_39 w.params).In s.heap) (T : Top p loose mean mg mb s.heap) {l wd : List Nat} {p0 : List Nat} {qs : List (Nat × List Nat)} {t : Tok} (hlen : l.length ≤ 10000) (hwd : wd.length ≤ 10000)
    (hl : splitL 38 l = p0 :: qs.map (fun q => nameOf q.1 ++ 59 :: q.2)) (hqs : ∀ q ∈ qs, q.1 ∈ seven) (hw : p0 ++ qs.flatMap (fun q => q.1 :: q.2) = wd)
    (ret : ∀ h' tk t', Kp s.heap h' → Q (.str (tx wd) t') { s with heap := h', toks := tk }) :
    wpAny (model prog w) (AtC 380 480) (call (.ref 83) [.str (tx l) t]) Q E s := by
  refine wpAny_call ?_
  refine' enter_plain (binds := [(Str.ofString "text", Value.str (tx l) t)]) X T ?ho ?hcd ?room ?hb ?hki ?h ?hcell ?c2 ?c3 ?c4
  case ho => k_is
  case hcd => k_is
  case room => exact Nat.le_of_ble_eq_true rfl
  case hb => exact BindsTo.of_eq rfl
  case hki => exact locs rfl
  case hcell => decide
  case c2 => exact rfl
  case c3 => exact rfl
  case c4 => exact rfl
  intro L h₁ tk htk F N
  generalize hK : Expr.Dict _ _ _ = dexp
  refine wpAny_execs_cons (wpAny_Assign_Name ?_ (swaps_dict hK))
  refine dict_strs' (ps := rms) hK F N T.nolimit ?_ rms_nd ?_ (fun D h₂ o tk₂ kvs F₂ N₂ hD hkv hat => ?_)
  · exact .cons (.cons (.cons (.cons (.cons (.cons (.cons .nil))))))
  · exact ⟨rfl, rfl, rfl, List.cons_ne_nil _ _, Nat.le_of_ble_eq_true rfl⟩
  clear hK
  refine stN F₂ N₂ (fun h₃ F₃ N₃ => ?_) rfl rfl
  refine norm_tk (s := s) (h := h₃) ⟨_, rfl⟩ (fun tk₃ => ?_)
  refine wpAny_execs_cons (wpAny_Assign_Name ?_ rfl)
  refine MethodCall_ (ld F₃ rfl ?_ rfl rfl (by decide)) rfl
  refine GM.split ?_
  refine callWith_method1 (spliced_more (Constant_str (spliced_none ?_)))
  refine splitN1A F₃ N₃ (by decide) (fun sl h₄ tk₄ esl hsl _ _ F₄ N₄ => ?_) (by rw [tx_len, sizeLine_eq]; omega)
  rw [amp_eq, split_tx, hl] at esl
  rw [esl] at hsl
  generalize strValues sl = vs at hsl N₄
  have hP4 : h₃.objs.size ≠ D := Nat.ne_of_gt (Heap.lt_size (N₃ _ (List.mem_cons_self ..)).1)
  generalize hP : h₃.objs.size = P at N₄ hP4 ⊢
  refine stN F₄ N₄ (fun h₅ F₅ N₅ => ?_) rfl rfl
  refine norm_tk (s := s) (h := h₅) ⟨_, rfl⟩ (fun tk₅ => ?_)
  have hl5 := News.isList N₅ (List.mem_cons_self ..)
  obtain ⟨t0, ht0⟩ := strs_at hsl 0 _ rfl
  refine wpAny_execs_cons (wpAny_Assign_Name (Subscript_ (ld F₅ rfl (wpAny_Constant_int (item_litK hl5 (by decide) (by decide) ht0 ?_)) rfl rfl (by decide))) rfl)
  refine stN F₅ N₅ (fun h₆ F₆ N₆ => ?_) rfl rfl
  refine norm_tk (s := s) (h := h₆) ⟨_, rfl⟩ (fun tk₆ => ?_)
  have hl6 := News.isList N₆ (List.mem_cons_self ..)
  refine wpAny_execs_cons (For_invV s.heap rfl rfl ?_)
  refine Subscript_ (ld F₆ rfl (wpAny_Slice (wpAny_evalPart_some (wpAny_Constant_int (wpAny_evalPart_none (wpAny_evalPart_none ?_))))) rfl rfl (by decide))
  have hvl : vs.length = qs.length + 1 := by rw [strs_len hsl]; simp
  have hql : qs.length ≤ 10000 := by
    have := splitL_count 38 l
    rw [hl] at this; simp at this; omega
  refine slice_list F₆ N₆ hl6 (.int _ _) .none (fun h₇ F₇ N₇ => ?_) (hsz := by rw [List.size_toArray, hvl, sizeLine_eq]; omega)
  have hsp : slicePick vs.toArray (some 1) none none = (vs.drop 1).toArray := slicePick_from vs.toArray 1 (by rw [List.size_toArray]; omega)
  rw [hsp] at N₇
  have hl7 := News.isList N₇ (List.mem_cons_self ..)
  have N₈ : News s.heap L h₇ [(D, o)] := fun q hq => N₇ q (List.mem_cons_of_mem _ (List.mem_cons_of_mem _ hq))
  have hDlt : D < h₆.objs.size := Heap.lt_size (N₆ (D, o) (List.mem_cons_of_mem _ (List.mem_cons_self ..))).1
  have hLlt : L < h₆.objs.size := F₆.ns.lt
  clear N₇ hl6 hl5 N₅ N₄ N₃ N₂ N F F₂ F₃ F₄ F₅
  generalize h₆.objs.size = Z at hl7 hDlt hLlt ⊢
  have hq : StrsAre (vs.drop 1) (qs.map fun q => tx (nameOf q.1 ++ 59 :: q.2)) := by
    have := strs_drop hsl 1
    simpa [List.map_map, Function.comp_def] using this
  refine norm_tk (s := s) (h := h₇) ⟨_, rfl⟩ (fun tk₇ => ?_)
  refine iter_lst (vs := vs.drop 1) (fun i m nx => nx = [(D, o)] ∧ m (Str.ofString "names") = some (.ref D) ∧ ∃ tt, m (Str.ofString "plain") = some (.str (tx (p0 ++ (qs.take i).flatMap (fun q => q.1 :: q.2))) tt)) rfl hl7 ?_ ?_ F₇ N₈ ⟨rfl, rfl, t0, ?_⟩ ?_ ?_
  · exact Ne.symm (Nat.ne_of_lt (Nat.lt_succ_of_lt hLlt))
  · intro q hq'
    rw [List.mem_singleton.mp hq']
    exact Nat.ne_of_lt (Nat.lt_succ_of_lt hDlt)
  · show some (Value.str (tx p0) t0) = _
    simp
  · rintro i v m₁ news₁ h tk own hv hadr hoff ⟨rfl, hm1, tt, hm2⟩ F₁ N₁
    have hi : i < qs.length := by
      have := (List.getElem?_eq_some_iff.mp hv).1
      rw [List.length_drop, hvl] at this; omega
    obtain ⟨tv, htv⟩ := strs_at hq i (tx (nameOf (qs[i]).1 ++ 59 :: (qs[i]).2)) (by simp [hi])
    rw [htv] at hv
    injection hv with hv
    have hqi := hqs qs[i] (List.getElem_mem hi)
    have htake : qs.take (i + 1) = qs.take i ++ [qs[i]] := by rw [List.take_add_one, List.getElem?_eq_getElem hi]; rfl
    have hwl : (p0 ++ (qs.take (i + 1)).flatMap (fun q => q.1 :: q.2)).length ≤ wd.length := by
      rw [← hw]
      have e : qs = qs.take (i + 1) ++ qs.drop (i + 1) := (List.take_append_drop _ _).symm
      conv => rhs; rw [e]
      rw [List.flatMap_append]
      simp only [List.length_append]; omega
    have hnl : (nameOf (qs[i]).1).length ≤ 4 := name_len _ hqi
    rw [htake, List.flatMap_append] at hwl
    generalize qs[i] = q at *
    subst hv
    have hpl : (nameOf q.1 ++ 59 :: q.2).length ≤ 1000000 := by
      simp at hwl ⊢; omega
    refine wpAny_execs_cons (cut_two (l := nameOf q.1 ++ 59 :: q.2) (c := 59) F₁ N₁ rfl rfl semi_eq (by decide) (name_free _ hqi).2 rfl hpl (fun h₂ tk₂ ta tb F₂ N₂ => ?_))
    refine norm_tk (s := s) (h := h₂) ⟨_, rfl⟩ (fun tk₂' => ?_)
    obtain ⟨tq, htq⟩ := hat (tx (nameOf q.1)) (tx [q.1]) (rms_at q.1 hqi)
    refine wpAny_execs_cons (wpAny_AugAssign_Name (ldn F₂ hm2 ?_ rfl rfl))
    refine wpAny_BinOp (Subscript_ (ld F₂ hm1 (ld F₂ rfl ?_ rfl rfl (by decide)) rfl rfl (by decide)))
    refine kdt_tail (knd := PySem.strKind _ _) N₂ (List.mem_append_left _ (List.mem_cons_self ..)) hkv (kdt_getItem (knd := PySem.strKind _ _) N₂ (List.mem_append_left _ (List.mem_cons_self ..)) hkv (strKind_is _ _ _ _) htq ?_)
    refine ld F₂ rfl ?_ rfl rfl (by decide)
    refine add_tx (a := [q.1]) (b := q.2) rfl rfl (by simp at hpl ⊢; omega) (fun t3 k3 => ?_)
    refine iadd_tx rfl rfl ?_ (fun t5 k5 => stN F₂ N₂ (fun h₃ F₃ N₃ => wpAny_execs_nil ?_) rfl rfl)
    · simp at hwl ⊢; omega
    refine InvEndN.intro F₃ N₃ ⟨rfl, hm1, t5, ?_⟩ rfl (fun p hp => List.mem_append_left _ hp) (fun p hp => List.mem_append_right _ hp)
    show some (Value.str (tx (p0 ++ (qs.take i).flatMap (fun q => q.1 :: q.2) ++ ([q.1] ++ q.2))) t5) = _
    rw [htake, List.flatMap_append]
    simp
  · rintro m₁ news₁ h tk ⟨_, _, tt, hm1⟩ F₁ N₁
    have e : qs.take (vs.drop 1).length = qs := List.take_of_length_le (by rw [List.length_drop, hvl]; omega)
    rw [e, hw] at hm1
    refine wpAny_execs_cons (wpAny_Return_some (ld F₁ hm1 ?_ rfl rfl (by decide)))
    exact ret _ _ _ F₁.keep
end
end Mine

/-! # M26 -/
namespace Mine

section
variable {prog : Program} {w : World} {A : Around} {E : Value → Shared → Prop} {s : Shared} {env : Env} {h₀ : Heap} {x : Str} {body : List Stmt} {Q : Flow → Shared → Prop} {m₀ : Str → Option Value} {news : List (Addr × Obj)}

/-- the end of a turn whose ledger may have grown -/
def EndG (h₀ : Heap) (L I : Addr) (Jn : (Str → Option Value) → List (Addr × Obj) → Prop) (own : List (Addr × Obj)) (s : Shared) (f : Flow) (s₂ : Shared) : Prop :=
  f = .next ∧ ∃ h' tk m' nx, s₂ = { s with heap := h', toks := tk } ∧ Fr h₀ L h' m' ∧ News h₀ L h' (nx ++ own) ∧ (∀ p ∈ nx, p.1 ≠ I) ∧ Jn m' nx

/-- a loop over range(n) whose ledger may grow -/
theorem iter_rngG {r : Addr} {b₀ : Int} {t₀ u₀ v₀ : Tok} {n : Nat} (J : Nat → (Str → Option Value) → List (Addr × Obj) → Prop) (hh : A.handled = none)
    (hr : IsRange s.heap r 0 b₀ 1 t₀ u₀ v₀) (hsmall : Builtin.Range.small 0 b₀ 1 = true) (hn : Builtin.Range.rangeSize 0 b₀ 1 = (n : Int)) (F : Fr h₀ env.locals s.heap m₀) (N : News h₀ env.locals s.heap news) (hj : J 0 m₀ news)
    (turn : ∀ (i : Nat) (z : Int) t m₁ news₁ h tk own I oI, z = (i : Int) → i < n → J i m₁ news₁ → (∀ p ∈ news₁, p.1 ≠ I) → (I, oI) ∈ own → Fr h₀ env.locals h (fun y => if y = x then some (.int z t) else m₁ y) → News h₀ env.locals h (news₁ ++ own) → (∀ p ∈ own, p.1 = I) →
      wpAny (model prog w) A (execs body env) (EndG h₀ env.locals I (J (i + 1)) own { s with heap := h, toks := tk }) E { s with heap := h, toks := tk })
    (done : ∀ m₁ news₁ h tk, J n m₁ news₁ → Fr h₀ env.locals h m₁ → News h₀ env.locals h news₁ → Q .next { s with heap := h, toks := tk }) :
    wpAny (model prog w) A (pyIter (.ref r)) (fun it s₂ => LoopAtV prog w A h₀ env x body Q E it s₂) E s := by
  refine wpAny_pyIter_range hr hsmall ?_
  have hnew := next_is_new F
  refine ⟨s.heap.objs.size, [s.heap.objs.size], [s.heap.objs.size], n, fun i v => ∃ t, v = .int (0 + (i : Nat) * 1) t, _, m₀, news, J, rfl, Walks.range hh _ 0 1 n, ?_, ?_, ?_, (by show IsRangeIter _ _ _ _ _; rw [hn]; simpa using Heap.get?_push_size _ rfl), F.push _, (fun p hp => ⟨Heap.get?_push_of_some _ (N p hp).1, (N p hp).2⟩), hj, ?_, ?_⟩
  · intro hm
    exact absurd F.ns.lt ((List.mem_singleton.mp hm) ▸ Nat.lt_irrefl _)
  · intro b hb
    rw [List.mem_singleton.mp hb]; exact hnew
  · intro p hp hI
    exact absurd (Heap.lt_size (N p hp).1) ((List.mem_singleton.mp hI) ▸ Nat.lt_irrefl _)
  · rintro i v m₁ news₁ s₁ own ⟨hh', tk', rfl⟩ hin ⟨t, rfl⟩ hJ hof hown hown2 hall hst F₁ N₁
    have N₂ : News h₀ env.locals hh' (news₁ ++ own) := fun p hp => N₁ p ((List.mem_append.mp hp).elim (fun h => List.mem_append.mpr (.inr h)) fun h => List.mem_append.mpr (.inl h))
    have hIo : ∃ oI, hh'.get? s.heap.objs.size = some oI := ⟨_, hst⟩
    obtain ⟨oI, hoI⟩ := hIo
    have hmem := hall s.heap.objs.size (List.mem_singleton.mpr rfl) hnew oI hoI
    refine wpAny_mono (turn i (0 + (i : Nat) * 1) t m₁ news₁ hh' tk' own s.heap.objs.size oI (by omega) hin hJ (fun p hp e => hof p hp (List.mem_singleton.mpr e)) hmem F₁ N₂ (fun p hp => List.mem_singleton.mp (hown p hp))) (fun f s₂ p => ?_) fun _ _ e => e
    obtain ⟨rfl, h', tk, m', nx, rfl, F', N', hI', hJ'⟩ := p
    refine ⟨rfl, h', tk, m', nx, rfl, F', fun p hp => N' p ?_, fun p hp e => hI' p hp (List.mem_singleton.mp e), hJ'⟩
    exact (List.mem_append.mp hp).elim (fun h => List.mem_append.mpr (.inr h)) fun h => List.mem_append.mpr (.inl h)
  · rintro h' tk m' news' F' N' _ hJ
    exact done m' news' h' tk hJ F' N'
end
end Mine

/-! # M27 -/
namespace Mine

def seg (as bs : List (List Nat)) (k : Nat) : List Nat := elt k (as.getD k []) (bs.getD k [])
def remL (as bs : List (List Nat)) : Nat → Nat → List Nat
  | 0, _ => []
  | k + 1, i => seg as bs i ++ remL as bs k (i + 1)
theorem remL_snoc (as bs : List (List Nat)) : ∀ k i, remL as bs (k + 1) i = remL as bs k i ++ seg as bs (i + k)
  | 0, i => by simp [remL]
  | k + 1, i => by
    have ih := remL_snoc as bs k (i + 1)
    show seg as bs i ++ remL as bs (k + 1) (i + 1) = (seg as bs i ++ remL as bs k (i + 1)) ++ _
    rw [ih, List.append_assoc]
    have : i + 1 + k = i + (k + 1) := by omega
    rw [this]
theorem laid_rem (as bs : List (List Nat)) : ∀ n, laidL as bs n = remL as bs n 0
  | 0 => rfl
  | n + 1 => by
    rw [remL_snoc, ← laid_rem as bs n]
    show laidL as bs n ++ elt n _ _ = _
    rw [Nat.zero_add]; rfl

/-- reading l gives wd -/
def ReadsTo (l wd : List Nat) : Prop := ∃ (p0 : List Nat) (qs : List (Nat × List Nat)), splitL 38 l = p0 :: qs.map (fun q => nameOf q.1 ++ 59 :: q.2) ∧ (∀ q ∈ qs, q.1 ∈ seven) ∧ p0 ++ qs.flatMap (fun q => q.1 :: q.2) = wd
def hdN (k : Nat) : List Nat := if k % 2 = 0 then [60, 97, 32, 98, 61] else [60, 99]
abbrev tupO (a b : List Nat) (ta tb : Tok) : Obj := { cls := .type "tuple", data := .seq #[.str (tx a) ta, .str (tx b) tb] }
def TupAt (h : Heap) (v : Value) (a b : List Nat) : Prop := ∃ tp ta tb, v = .ref tp ∧ h.get? tp = some (tupO a b ta tb)
theorem quot_eq : Str.ofString "\"" = (⟨#[34]⟩ : Str) := by decide +kernel
theorem gt_eq : Str.ofString ">" = (⟨#[62]⟩ : Str) := by decide +kernel
theorem lt_eq : Str.ofString "<" = (⟨#[60]⟩ : Str) := by decide +kernel
theorem slice_tx (l : List Nat) (k : Nat) (h : k ≤ l.length) : Txt.slice (tx l) (some (k : Int)) none = tx (l.drop k) := by
  rw [slice_from_eq (b := (tx l).length) (by omega) (by rw [tx_len]; omega) rfl]
  show (⟨((l.drop (k : Int).toNat).take _).toArray⟩ : Str) = _
  rw [Int.toNat_natCast, List.take_of_length_le]
  rw [List.length_drop, tx_len]; omega
end Mine

/-! # M28 -/
namespace Mine

/-- the tuples told so far lie in the ledger -/
def ToldAt (ds : List (List Nat)) (i : Nat) (tys : List Value) (news : List (Addr × Obj)) : Prop :=
  tys.length = i ∧ ∀ k, k < i → ∃ tp ta tb, tys[k]? = some (.ref tp) ∧ (tp, tupO (hdN k) (ds.getD k []) ta tb) ∈ news

section
variable {prog : Program} {w : World} {A : Around} {s : Shared} {p : Program} {loose : List Str} {mean : ExcName → Option Value} {mg mb : Str → Option Value} {Q E : Value → Shared → Prop}

theorem C_parted (X : (Mine.hd.heap_39 w.params).In s.heap) (T : Top p loose mean mg mb s.heap) {as bs ws : List (List Nat)} {n : Nat} {t u : Tok} (hn : n ≤ 5)
    (hev : ∀ k, k < n → k % 2 = 0 → 34 ∉ as.getD k [] ∧ ReadsTo (as.getD k []) (ws.getD k []))
    (hod : ∀ k, k < n → k % 2 = 1 → 60 ∉ bs.getD k [] ∧ ReadsTo (bs.getD k []) (ws.getD k []))
    (hlen : ∀ k, (as.getD k []).length ≤ 1000 ∧ (bs.getD k []).length ≤ 1000 ∧ (ws.getD k []).length ≤ 1000) (hrl : ∀ k i, k ≤ 5 → (remL as bs k i).length ≤ 100000)
    (ret : ∀ D h' tk ys t' tups, s.heap.get? D = none → h'.get? D = some (listOf (ys ++ [.str (tx []) t']).toArray 0) → ToldAt ws n ys tups → (∀ q ∈ tups, s.heap.get? q.1 = none ∧ h'.get? q.1 = some q.2) → Kp s.heap h' → Q (.ref D) { s with heap := h', toks := tk }) :
    wpAny (model prog w) (AtC 370 450) (call (.ref 90) [.str (tx (remL as bs n 0)) t, .int (n : Nat) u]) Q E s := by
  refine wpAny_call ?_
  refine' enter_plain (binds := [(Str.ofString "text", Value.str (tx (remL as bs n 0)) t), (Str.ofString "count", Value.int (n : Nat) u)]) X T ?ho ?hcd ?room ?hb ?hki ?h ?hcell ?c2 ?c3 ?c4
  case ho => k_is
  case hcd => k_is
  case room => exact Nat.le_of_ble_eq_true rfl
  case hb => exact BindsTo.of_eq rfl
  case hki => exact locs rfl
  case hcell => decide
  case c2 => exact rfl
  case c3 => exact rfl
  case c4 => exact rfl
  intro L h₁ tk htk F N
  have TR := topRead_of T
  refine wpAny_execs_cons (wpAny_Assign_Name (List_ (spliced_none (newList_K F N (fun D h₂ F₂ N₂ hD => ?_) (Nat.le_of_ble_eq_true rfl)))) rfl)
  refine stN F₂ N₂ (fun h₃ F₃ N₃ => ?_) rfl rfl
  refine norm_tk (s := s) (h := h₃) ⟨_, rfl⟩ (fun tk₃ => ?_)
  refine wpAny_execs_cons (For_invV s.heap rfl rfl ?_)
  refine Call_ (name_B F₃ X TR (by k_is) boot_range (by decide) ?_ rfl rfl (by decide))
  refine PyProof.Rows.callWith_type1 (spliced_more (ld F₃ rfl (spliced_none ?_) rfl rfl (by decide)))
  refine range1_rows F₃ N₃ ?_
  intro h₄ tk₄ t₁ u₁ v₁ hr F₄ N₄ _
  refine norm_tk (s := s) (h := h₄) ⟨_, rfl⟩ (fun tk₄' => ?_)
  have hsz : Builtin.Range.rangeSize 0 ((n : Nat) : Int) 1 = ((n : Nat) : Int) := by
    have := rng_size (n := n) (c := 1) (by omega)
    rwa [Nat.mul_one] at this
  refine iter_rngG (n := n) (fun i m nx => m (Str.ofString "found") = some (.ref D) ∧ (∃ tt, m (Str.ofString "text") = some (.str (tx (remL as bs (n - i) i)) tt)) ∧
    ∃ ys c tups, nx = (D, listOf ys.toArray c) :: tups ∧ ys.length = i ∧ (∀ q ∈ tups, q.1 ≠ D) ∧ ∀ k, k < i → ∃ tp ta tb, ys[k]? = some (.ref tp) ∧ (tp, tupO (hdN k) (ws.getD k []) ta tb) ∈ tups)
    rfl hr (rng_small hsz (by omega) (by omega) (by omega)) hsz F₄ N₄ ⟨rfl, ⟨t, rfl⟩, [], 0, [], rfl, rfl, (fun _ h => nomatch h), (fun k hk => absurd hk (Nat.not_lt_zero _))⟩ ?_ ?_
  · rintro i z ti m₁ news₁ h tk own I oI hz hi ⟨hmf, ⟨tt, hmt⟩, ys, c, tups, rfl, hyl, htD, htups⟩ hnI hIo F₁ N₁ hown
    have hDI : D ≠ I := hnI (D, _) (List.mem_cons_self ..)
    have hrem : remL as bs (n - i) i = seg as bs i ++ remL as bs (n - i - 1) (i + 1) := by
      have : n - i = (n - i - 1) + 1 := by omega
      conv => lhs; rw [this]
      rfl
    have hrl1 := hrl (n - i) i (by omega)
    have hmk : (fun y => if y = Str.ofString "k" then some (Value.int z ti) else m₁ y) (Str.ofString "k") = some (Value.int z ti) := rfl
    refine wpAny_execs_cons (wpAny_mono (Q := fun f s' => f = .next ∧ ∃ h' tk' m2 th tv tt2 val, s' = { s with heap := h', toks := tk' } ∧ Fr s.heap L h' m2 ∧ News s.heap L h' (((D, listOf ys.toArray c) :: tups) ++ own) ∧ m2 (Str.ofString "found") = some (.ref D) ∧
      m2 (Str.ofString "head") = some (.str (tx (hdN i)) th) ∧ m2 (Str.ofString "value") = some (.str (tx val) tv) ∧ m2 (Str.ofString "text") = some (.str (tx (remL as bs (n - i - 1) (i + 1))) tt2) ∧ ReadsTo val (ws.getD i []) ∧ val.length ≤ 1000) ?_ ?_ (fun _ _ e => e))
    · refine wpAny_If (wpAny_isTrue_Compare1 (wpAny_BinOp (ld F₁ hmk (wpAny_Constant_int (mod_int' (by decide) ?_)) rfl rfl (by decide))) rfl)
      refine wpAny_Constant_int (eq_int (wpAny_truthy_bool ?_))
      have ez : z.fmod 2 = ((i % 2 : Nat) : Int) := by rw [hz, Int.fmod_eq_emod_of_nonneg _ (by decide)]; omega
      rw [ez]
      rcases Nat.mod_two_eq_zero_or_one i with q | q
      · have ed : ((((i % 2 : Nat) : Int)) == 0) = true := by rw [q]; rfl
        rw [ed]
        show wpAny _ _ (execs _ _) _ _ _
        refine norm_tk (s := s) (h := h) ⟨_, rfl⟩ (fun tk₁' => ?_)
        obtain ⟨h34, hrd⟩ := hev i hi q
        have hse : remL as bs (n - i) i = [60, 97, 32, 98, 61] ++ 34 :: (as.getD i [] ++ 34 :: ([47, 62] ++ remL as bs (n - i - 1) (i + 1))) := by
          rw [hrem, seg, elt, if_pos q]; simp
        refine wpAny_execs_cons (cut_three (l := remL as bs (n - i) i) (c := 34) F₁ N₁ hmt hse quot_eq (by decide) (by decide) h34 rfl (by omega) (fun h₂ tk₂ ta tb td F₂ N₂ => ?_))
        refine norm_tk (s := s) (h := h₂) ⟨_, rfl⟩ (fun tk₂' => ?_)
        refine wpAny_execs_cons (wpAny_Assign_Name ?_ rfl)
        refine Subscript_ (ld F₂ rfl (wpAny_Slice (wpAny_evalPart_some (wpAny_Constant_int (wpAny_evalPart_none (wpAny_evalPart_none ?_))))) rfl rfl (by decide))
        have hrl2 := hrl (n - i - 1) (i + 1) (by omega)
        refine slice_strN_sn F₂ N₂ (fun h₃ t₃ k₃ F₃ N₃ => ?_) (hsz := by rw [tx_len, sizeLine_eq]; simp; omega)
        have es : Txt.slice (tx ([47, 62] ++ remL as bs (n - i - 1) (i + 1))) (some 2) none = tx (remL as bs (n - i - 1) (i + 1)) := slice_tx _ 2 (by simp)
        rw [es]
        refine stN F₃ N₃ (fun h₄ F₄ N₄ => wpAny_execs_nil ?_) rfl rfl
        refine ⟨rfl, h₄, _, _, ta, tb, t₃, as.getD i [], rfl, F₄, N₄, hmf, ?_, rfl, rfl, hrd, (hlen i).1⟩
        show some (Value.str (tx [60, 97, 32, 98, 61]) ta) = _
        rw [hdN, if_pos q]
      · have ed : ((((i % 2 : Nat) : Int)) == 0) = false := by rw [q]; rfl
        rw [ed]
        show wpAny _ _ (execs _ _) _ _ _
        refine norm_tk (s := s) (h := h) ⟨_, rfl⟩ (fun tk₁' => ?_)
        obtain ⟨h60, hrd⟩ := hod i hi q
        have hse : remL as bs (n - i) i = [60, 99] ++ 62 :: (bs.getD i [] ++ 60 :: ([47, 99, 62] ++ remL as bs (n - i - 1) (i + 1))) := by
          rw [hrem, seg, elt, if_neg (by omega)]; simp
        have hrl2 := hrl (n - i - 1) (i + 1) (by omega)
        have hbl := (hlen i).2.1
        refine wpAny_execs_cons (cut_two (l := remL as bs (n - i) i) (c := 62) F₁ N₁ hmt hse gt_eq (by decide) (by decide) rfl (by omega) (fun h₂ tk₂ ta tb F₂ N₂ => ?_))
        refine norm_tk (s := s) (h := h₂) ⟨_, rfl⟩ (fun tk₂' => ?_)
        refine wpAny_execs_cons (cut_two (l := bs.getD i [] ++ 60 :: ([47, 99, 62] ++ remL as bs (n - i - 1) (i + 1))) (c := 60) F₂ N₂ rfl rfl lt_eq (by decide) h60 rfl (by simp at hbl ⊢; omega) (fun h₃ tk₃ tc td F₃ N₃ => ?_))
        refine norm_tk (s := s) (h := h₃) ⟨_, rfl⟩ (fun tk₃' => ?_)
        refine wpAny_execs_cons (wpAny_Assign_Name ?_ rfl)
        refine Subscript_ (ld F₃ rfl (wpAny_Slice (wpAny_evalPart_some (wpAny_Constant_int (wpAny_evalPart_none (wpAny_evalPart_none ?_))))) rfl rfl (by decide))
        refine slice_strN_sn F₃ N₃ (fun h₄ t₄ k₄ F₄ N₄ => ?_) (hsz := by rw [tx_len, sizeLine_eq]; simp; omega)
        have es : Txt.slice (tx ([47, 99, 62] ++ remL as bs (n - i - 1) (i + 1))) (some 3) none = tx (remL as bs (n - i - 1) (i + 1)) := slice_tx _ 3 (by simp)
        rw [es]
        refine stN F₄ N₄ (fun h₅ F₅ N₅ => wpAny_execs_nil ?_) rfl rfl
        refine ⟨rfl, h₅, _, _, ta, tc, t₄, bs.getD i [], rfl, F₅, N₅, hmf, ?_, rfl, rfl, hrd, (hlen i).2.1⟩
        show some (Value.str (tx [60, 99]) ta) = _
        rw [hdN, if_neg (by omega)]
    rintro _ _ ⟨rfl, h₂, tk₂, m2, th, tv, tt2, val, rfl, F₂, N₂, hf2, hh2, hv2, ht2, ⟨p0, qs, hr1, hr2, hr3⟩, hvl⟩
    show wpAny _ _ (execs _ _) _ _ _
    refine wpAny_execs_cons (wpAny_Expr_any ?_ rfl rfl)
    refine MethodCall_ (ld F₂ hf2 ?_ rfl rfl (by decide)) rfl
    refine getMethod_list_append (N₂ (D, _) (List.mem_cons_self ..)).1 rfl rfl ?_
    refine callWith_method1 (spliced_more (Tuple_ (spliced_more (ld F₂ hh2 ?_ rfl rfl (by decide)))))
    refine spliced_more (Call_ (name_K F₂ X TR (by k_is) ?_ rfl rfl (by decide)))
    refine callWith_K (K := Mine.hd.heap_39 w.params) X (by k_is) (spliced_more (ld F₂ hv2 (spliced_none ⟨X.keeps F₂.keep, ?_⟩) rfl rfl (by decide)))
    refine any_at (C_read (X.keeps F₂.keep) (T.keeps F₂.keep) (by omega) (by have := (hlen i).2.2; omega) hr1 hr2 hr3 (fun h₃ tk₃ t₃ hk₃ => ?_))
    refine spliced_none ?_
    have F₃ := F₂.keeps hk₃
    have N₃ := N₂.grown hk₃
    refine newTuple_N F₃ N₃ (fun h₄ F₄ N₄ => spliced_none ?_) (Nat.le_of_ble_eq_true rfl)
    have hZD : D < h₃.objs.size := Heap.lt_size (N₃ (D, _) (List.mem_cons_self ..)).1
    have hZI : I < h₃.objs.size := Heap.lt_size (N₃ (I, oI) (List.mem_append_right _ hIo)).1
    replace N₄ : News s.heap L h₄ ((h₃.objs.size, tupO (hdN i) (ws.getD i []) th t₃) :: (D, listOf ys.toArray c) :: (tups ++ own)) := N₄
    generalize h₃.objs.size = Z at N₄ hZD hZI ⊢
    refine norm_tk (s := s) (h := h₄) ⟨_, rfl⟩ (fun tk₄' => ?_)
    have hU : ∀ p ∈ tups ++ own, p.1 ≠ D := by
      intro q hq
      rcases List.mem_append.mp hq with hq | hq
      · exact htD q hq
      · rw [hown q hq]; exact Ne.symm hDI
    show wpAny _ _ (call (.builtin "list.append") [.ref D, .ref Z]) _ _ _
    refine append_K F₄ N₄ (.tail (p := (Z, _)) (Nat.ne_of_gt hZD) (.head hU)) (fun h₅ F₅ N₅ => ?_) (by rw [List.size_toArray, hyl, sizeLine_eq]; omega)
    refine wpAny_execs_nil ?_
    have hni : n - (i + 1) = n - i - 1 := by omega
    refine ⟨rfl, h₅, _, m2, (D, listOf (ys ++ [Value.ref Z]).toArray (c + 1)) :: (Z, tupO (hdN i) (ws.getD i []) th t₃) :: tups, rfl, F₅, ?_, ?_, hf2, ⟨tt2, by rw [hni]; exact ht2⟩, ys ++ [Value.ref Z], c + 1, _, rfl, by simp [hyl], ?_, ?_⟩
    · intro q hq
      refine N₅ q ?_
      rw [List.push_toArray]
      rcases List.mem_cons.mp hq with rfl | hq
      · exact List.mem_cons_of_mem _ (List.mem_cons_self ..)
      · rcases List.mem_cons.mp hq with rfl | hq
        · exact List.mem_cons_self ..
        · exact List.mem_cons_of_mem _ (List.mem_cons_of_mem _ hq)
    · intro q hq
      rcases List.mem_cons.mp hq with rfl | hq
      · exact hDI
      · rcases List.mem_cons.mp hq with rfl | hq
        · exact Nat.ne_of_gt hZI
        · exact hnI q (List.mem_cons_of_mem _ hq)
    · intro q hq
      rcases List.mem_cons.mp hq with rfl | hq
      · exact Nat.ne_of_gt hZD
      · exact htD q hq
    · intro k hk
      by_cases e : k = i
      · subst e
        exact ⟨Z, th, t₃, by rw [← hyl]; simp, List.mem_cons_self ..⟩
      · obtain ⟨tp, ta, tb, h1, h2⟩ := htups k (by omega)
        exact ⟨tp, ta, tb, by rw [List.getElem?_append_left (by omega)]; exact h1, List.mem_cons_of_mem _ h2⟩
  · rintro m₁ news₁ h tk ⟨hmf, ⟨tt, hmt⟩, ys, c, tups, rfl, hyl, htD, htups⟩ F₁ N₁
    have e0 : remL as bs (n - n) n = [] := by rw [Nat.sub_self]; rfl
    rw [e0] at hmt
    refine wpAny_execs_cons (wpAny_Return_some (wpAny_BinOp (ld F₁ hmf ?_ rfl rfl (by decide))))
    refine List_ (spliced_more (ld F₁ hmt (spliced_none ?_) rfl rfl (by decide)))
    refine newList_K F₁ N₁ (fun D2 h₂ F₂ N₂ hD2 => ?_) (Nat.le_of_ble_eq_true rfl)
    have hl1 := News.isList N₂ (List.mem_cons_of_mem _ (List.mem_cons_self ..))
    have hl2 := News.isList N₂ (List.mem_cons_self ..)
    refine add_lists F₂ N₂ hl1 hl2 (fun h₃ F₃ N₃ => ?_) (by rw [hyl, sizeLine_eq]; simp; omega)
    refine ret _ h₃ _ ys tt tups ?_ (N₃ _ (List.mem_cons_self ..)).1 ⟨hyl, htups⟩ (fun q hq => ?_) F₃.keep
    · exact (N₃ _ (List.mem_cons_self ..)).2.2
    · have z := N₃ q (List.mem_cons_of_mem _ (List.mem_cons_of_mem _ (List.mem_cons_of_mem _ hq)))
      exact ⟨z.2.2, z.1⟩
end
end Mine

/-! # M29 -/
namespace Mine

/-! ## the plain law -/
abbrev sgA : List Nat := [38, 60, 34, 13, 10, 9]
abbrev sgC : List Nat := [38, 60, 62, 13]
theorem rl_flat (c : Nat) (z : List Nat) (g : Nat → List Nat) : ∀ l : List Nat, rl c z (l.flatMap g) = l.flatMap fun d => rl c z (g d)
  | [] => rfl
  | d :: l => by rw [List.flatMap_cons, rl_app, rl_flat c z g l, List.flatMap_cons]
theorem flat_self (l : List Nat) : l.flatMap (fun d => [d]) = l := by
  induction l with
  | nil => rfl
  | cons d l ih => rw [List.flatMap_cons, ih]; rfl
theorem rl_sing {c d : Nat} (z : List Nat) (h : d ≠ c) : rl c z [d] = [d] := rl_free c z [d] (by simp; exact Ne.symm h)
theorem escA_flat (l : List Nat) : escA l = l.flatMap fun d => escA [d] := by
  conv => lhs; rw [← flat_self l]
  unfold escA
  rw [rl_flat, rl_flat, rl_flat, rl_flat, rl_flat, rl_flat]
theorem escC_flat (l : List Nat) : escC l = l.flatMap fun d => escC [d] := by
  conv => lhs; rw [← flat_self l]
  unfold escC
  rw [rl_flat, rl_flat, rl_flat, rl_flat]
theorem escA_spl (l : List Nat) : escA l = l.flatMap (spl sgA) := by
  rw [escA_flat]
  congr 1
  funext d
  by_cases h1 : d = 38
  · subst h1; decide
  by_cases h2 : d = 60
  · subst h2; decide
  by_cases h3 : d = 34
  · subst h3; decide
  by_cases h4 : d = 9
  · subst h4; decide
  by_cases h5 : d = 10
  · subst h5; decide
  by_cases h6 : d = 13
  · subst h6; decide
  unfold escA
  rw [rl_sing _ h1, rl_sing _ h2, rl_sing _ h3, rl_sing _ h4, rl_sing _ h5, rl_sing _ h6, spl, if_neg]
  simp [h1, h2, h3, h4, h5, h6]
theorem escC_spl (l : List Nat) : escC l = l.flatMap (spl sgC) := by
  rw [escC_flat]
  congr 1
  funext d
  by_cases h1 : d = 38
  · subst h1; decide
  by_cases h2 : d = 60
  · subst h2; decide
  by_cases h3 : d = 62
  · subst h3; decide
  by_cases h6 : d = 13
  · subst h6; decide
  unfold escC
  rw [rl_sing _ h1, rl_sing _ h2, rl_sing _ h3, rl_sing _ h6, spl, if_neg]
  simp [h1, h2, h3, h6]
theorem sgA_seven : ∀ c ∈ sgA, c ∈ seven := by decide
theorem sgC_seven : ∀ c ∈ sgC, c ∈ seven := by decide
theorem name_no : ∀ d ∈ seven, 34 ∉ [38] ++ nameOf d ++ [59] ∧ 60 ∉ [38] ++ nameOf d ++ [59] ∧ ∀ c ∈ [38] ++ nameOf d ++ [59], c < 1114112 := by decide
theorem spl_free {sg : List Nat} {c : Nat} (hc : c ∈ sg) (hsg : ∀ d ∈ sg, d ∈ seven) (h2 : c = 34 ∨ c = 60) (l : List Nat) : c ∉ l.flatMap (spl sg) := by
  intro h
  obtain ⟨d, _, hd⟩ := List.mem_flatMap.mp h
  unfold spl at hd
  split at hd
  · rename_i hm
    have := name_no d (hsg d hm)
    rcases h2 with rfl | rfl
    · exact this.1 hd
    · exact this.2.1 hd
  · rename_i hm
    rw [List.mem_singleton.mp hd] at hc
    exact hm hc
theorem spl_flat_len (sg l : List Nat) : (l.flatMap (spl sg)).length ≤ l.length * 6 := by
  induction l with
  | nil => simp
  | cons c l ih =>
    have := spl_len sg c
    rw [List.flatMap_cons, List.length_append, List.length_cons]; omega
theorem spl_small {sg l : List Nat} (hsg : ∀ d ∈ sg, d ∈ seven) (hl : ∀ c ∈ l, c < 1114112) : ∀ c ∈ l.flatMap (spl sg), c < 1114112 := by
  intro c h
  obtain ⟨d, hd', hd⟩ := List.mem_flatMap.mp h
  unfold spl at hd
  split at hd
  · rename_i hm
    exact (name_no d (hsg d hm)).2.2 c hd
  · rw [List.mem_singleton.mp hd]; exact hl d hd'
theorem pc_chars (i : Nat) : ∀ c ∈ pc.getD i [], c < 1114112 := by
  rw [List.getD_eq_getElem?_getD]
  cases h : pc[i]? with
  | none => intro c hc; cases hc
  | some a => exact (pc_short a (List.mem_of_getElem? h)).2
theorem drw_len (x : Int) : (drw x).length ≤ 8 := by
  have h1 := pc_lens (x % 16).toNat
  have h2 := pc_lens (x / 16 % 16).toNat
  unfold drw
  rw [List.length_append]; omega
theorem drw_chars (x : Int) : ∀ c ∈ drw x, c < 1114112 := by
  intro c hc
  rcases List.mem_append.mp hc with h | h
  · exact pc_chars _ c h
  · exact pc_chars _ c h

def asL (ds : List (List Nat)) : List (List Nat) := ds.map fun l => l.flatMap (spl sgA)
def bsL (ds : List (List Nat)) : List (List Nat) := ds.map fun l => l.flatMap (spl sgC)
theorem map_getD (f : List Nat → List Nat) (hf : f [] = []) (ds : List (List Nat)) (k : Nat) : (ds.map f).getD k [] = f (ds.getD k []) := by
  rw [List.getD_eq_getElem?_getD, List.getD_eq_getElem?_getD, List.getElem?_map]
  cases ds[k]? with
  | none => exact hf.symm
  | some a => rfl
theorem asL_getD (ds : List (List Nat)) (k : Nat) : (asL ds).getD k [] = (ds.getD k []).flatMap (spl sgA) := map_getD _ rfl ds k
theorem bsL_getD (ds : List (List Nat)) (k : Nat) : (bsL ds).getD k [] = (ds.getD k []).flatMap (spl sgC) := map_getD _ rfl ds k
def Drawn (ds : List (List Nat)) : Prop := ∀ l ∈ ds, l.length ≤ 8 ∧ ∀ c ∈ l, c < 1114112
theorem Drawn.getD {ds : List (List Nat)} (h : Drawn ds) (k : Nat) : (ds.getD k []).length ≤ 8 ∧ ∀ c ∈ ds.getD k [], c < 1114112 := by
  rw [List.getD_eq_getElem?_getD]
  cases e : ds[k]? with
  | none => exact ⟨by simp, fun c hc => by cases hc⟩
  | some a => exact h a (List.mem_of_getElem? e)
theorem drawn_is (ns : List Int) : Drawn (ns.map drw) := by
  intro l hl
  obtain ⟨x, _, rfl⟩ := List.mem_map.mp hl
  exact ⟨drw_len x, drw_chars x⟩
theorem seg_len {ds : List (List Nat)} (h : Drawn ds) (k : Nat) : (seg (asL ds) (bsL ds) k).length ≤ 60 := by
  have h1 := spl_flat_len sgA (ds.getD k [])
  have h2 := spl_flat_len sgC (ds.getD k [])
  have h3 := (h.getD k).1
  unfold seg elt
  rw [asL_getD, bsL_getD]
  split <;> simp only [List.length_append, List.length_cons, List.length_nil] <;> omega
theorem remL_len {ds : List (List Nat)} (h : Drawn ds) : ∀ k i, (remL (asL ds) (bsL ds) k i).length ≤ k * 60
  | 0, i => by simp [remL]
  | k + 1, i => by
    have := remL_len h k (i + 1)
    have := seg_len h i
    show (seg _ _ i ++ remL _ _ k (i + 1)).length ≤ _
    rw [List.length_append]; omega
theorem seg_chars {ds : List (List Nat)} (h : Drawn ds) (k : Nat) : ∀ c ∈ seg (asL ds) (bsL ds) k, c < 1114112 := by
  have h1 := spl_small (sg := sgA) sgA_seven (h.getD k).2
  have h2 := spl_small (sg := sgC) sgC_seven (h.getD k).2
  intro c hc
  unfold seg elt at hc
  rw [asL_getD, bsL_getD] at hc
  split at hc
  · rcases List.mem_append.mp hc with hc | hc
    · rcases List.mem_append.mp hc with hc | hc
      · exact (by decide : ∀ c ∈ [60, 97, 32, 98, 61, 34], c < 1114112) c hc
      · exact h1 c hc
    · exact (by decide : ∀ c ∈ [34, 47, 62], c < 1114112) c hc
  · rcases List.mem_append.mp hc with hc | hc
    · rcases List.mem_append.mp hc with hc | hc
      · exact (by decide : ∀ c ∈ [60, 99, 62], c < 1114112) c hc
      · exact h2 c hc
    · exact (by decide : ∀ c ∈ [60, 47, 99, 62], c < 1114112) c hc
theorem remL_chars {ds : List (List Nat)} (h : Drawn ds) : ∀ k i, ∀ c ∈ remL (asL ds) (bsL ds) k i, c < 1114112
  | 0, i => by intro c hc; cases hc
  | k + 1, i => by
    intro c hc
    rcases List.mem_append.mp hc with hc | hc
    · exact seg_chars h i c hc
    · exact remL_chars h k (i + 1) c hc
theorem remL_head (as bs : List (List Nat)) (k : Nat) : ∃ r, remL as bs (k + 1) 0 = 60 :: r := ⟨_, rfl⟩

/-! ## the four orders -/
theorem srcP_up (wd p : Nat) (h : 0 < wd) : srcP wd (wd + p) = wd + srcP wd p := by
  unfold srcP
  rw [Nat.add_mod_left, Nat.add_div_left _ h, Nat.succ_mul]
  omega
theorem swap_up (wd : Nat) (h : 0 < wd) (x r : List UInt8) (hx : x.length = wd) : swapL wd (x ++ r) = ((List.range wd).map fun p => (x ++ r).getD (srcP wd p) 0) ++ swapL wd r := by
  unfold swapL
  rw [List.length_append, hx, List.range_add, List.map_append, List.map_map]
  congr 1
  apply List.map_congr_left
  intro p _
  show (x ++ r).getD (srcP wd (wd + p)) 0 = _
  rw [srcP_up wd p h, List.getD_eq_getElem?_getD, List.getElem?_append_right (by omega), List.getD_eq_getElem?_getD]
  congr 2
  omega
theorem swap4 (a b c d : UInt8) (r : List UInt8) : swapL 4 (a :: b :: c :: d :: r) = d :: c :: b :: a :: swapL 4 r := by
  have := swap_up 4 (by decide) [a, b, c, d] r rfl
  exact this
theorem swap2 (a b c d : UInt8) (r : List UInt8) : swapL 2 (a :: b :: c :: d :: r) = b :: a :: d :: c :: swapL 2 r := by
  have h1 := swap_up 2 (by decide) [a, b] (c :: d :: r) rfl
  have h2 := swap_up 2 (by decide) [c, d] r rfl
  have h2' : swapL 2 (c :: d :: r) = d :: c :: swapL 2 r := h2
  have h1' : swapL 2 (a :: b :: c :: d :: r) = b :: a :: swapL 2 (c :: d :: r) := h1
  rw [h1', h2']
theorem bytL_oct4 (i j k m : Nat) (c : Nat) (l : List Nat) : bytL (octN [i, j, k, m] (c :: l)) = ((fourN c).getD i 0).toUInt8 :: ((fourN c).getD j 0).toUInt8 :: ((fourN c).getD k 0).toUInt8 :: ((fourN c).getD m 0).toUInt8 :: bytL (octN [i, j, k, m] l) := rfl
theorem oct_swap4 (i j k m : Nat) : ∀ l : List Nat, swapL 4 (bytL (octN [i, j, k, m] l)) = bytL (octN [m, k, j, i] l)
  | [] => rfl
  | c :: l => by rw [bytL_oct4, swap4, oct_swap4 i j k m l, bytL_oct4]
theorem oct_swap2 (i j k m : Nat) : ∀ l : List Nat, swapL 2 (bytL (octN [i, j, k, m] l)) = bytL (octN [j, i, m, k] l)
  | [] => rfl
  | c :: l => by rw [bytL_oct4, swap2, oct_swap2 i j k m l, bytL_oct4]
def ordr (o : Nat) : List Nat := [[0, 1, 2, 3], [3, 2, 1, 0], [1, 0, 3, 2], [2, 3, 0, 1]].getD o []
theorem four_cases {o : Nat} (ho : o < 4) : o = 0 ∨ o = 1 ∨ o = 2 ∨ o = 3 := by omega
theorem turn_out {o : Nat} (ho : o < 4) (l : List Nat) : turn1 (bA o) (turn1 (bB o) (bytL (octN [0, 1, 2, 3] l))) = bytL (octN (ordr o) l) := by
  rcases four_cases ho with rfl | rfl | rfl | rfl
  · rfl
  · exact oct_swap4 0 1 2 3 l
  · exact oct_swap2 0 1 2 3 l
  · show swapL 2 (swapL 4 _) = _
    rw [oct_swap4, oct_swap2]; rfl
theorem turn_back {o : Nat} (ho : o < 4) (l : List Nat) : turn1 (bB o) (turn1 (bA o) (bytL (octN (ordr o) l))) = bytL (octN [0, 1, 2, 3] l) := by
  rcases four_cases ho with rfl | rfl | rfl | rfl
  · rfl
  · exact oct_swap4 3 2 1 0 l
  · exact oct_swap2 1 0 3 2 l
  · show swapL 4 (swapL 2 (bytL (octN [2, 3, 0, 1] l))) = _
    rw [oct_swap2, oct_swap4]
theorem ordr_len {o : Nat} (ho : o < 4) : (ordr o).length = 4 ∧ ∀ k ∈ ordr o, k < 4 := by
  rcases four_cases ho with rfl | rfl | rfl | rfl <;> decide
theorem first60 {o : Nat} (ho : o < 4) (r : List Nat) : ∀ k, k < 4 → (((bytL (octN (ordr o) (60 :: r))).getD k 0).toNat = 60 ↔ k = idxO o) := by
  intro k hk
  have e : ((bytL (octN (ordr o) (60 :: r))).getD k 0) = (bytL (pickN (ordr o) 60)).getD k 0 := by
    rcases four_cases ho with rfl | rfl | rfl | rfl <;> rcases four_cases hk with rfl | rfl | rfl | rfl <;> rfl
  rw [e]
  clear e
  rcases four_cases ho with rfl | rfl | rfl | rfl <;> rcases four_cases hk with rfl | rfl | rfl | rfl <;> decide
end Mine

/-! # M30 -/
namespace Mine

/-! ## what is found and what was told, compared -/
def tupD (ws : List (List Nat)) (k : Nat) : PyData := .tuple [.str (tx (hdN k)), .str (tx (ws.getD k []))]
def datL (ws : List (List Nat)) (n : Nat) : List PyData := (List.range n).map (tupD ws) ++ [.str (tx [])]
theorem reads_build {h : Heap} : ∀ (ys : List Value) (ds : List PyData), ys.length = ds.length → (∀ (i : Nat) (v : Value) (d : PyData), ys[i]? = some v → ds[i]? = some d → ∃ as, Reads h v d as) → ∃ as, ReadsAll h ys ds as
  | [], [], _, _ => ⟨[], .nil⟩
  | [], _ :: _, hl, _ => by cases hl
  | _ :: _, [], hl, _ => by cases hl
  | v :: ys, d :: ds, hl, hr => by
    obtain ⟨as, ra⟩ := hr 0 v d rfl rfl
    obtain ⟨bs, rb⟩ := reads_build ys ds (by simpa using hl) (fun i v d h1 h2 => hr (i + 1) v d (by simpa using h1) (by simpa using h2))
    exact ⟨_, .cons ra rb⟩
theorem TupAt.reads {h : Heap} {v : Value} {ws : List (List Nat)} {k : Nat} (x : TupAt h v (hdN k) (ws.getD k [])) : ∃ as, Reads h v (tupD ws k) as := by
  obtain ⟨tp, ta, tb, rfl, ho⟩ := x
  exact ⟨_, Reads.tuple ho rfl rfl (.cons (Reads.str _ _) (.cons (Reads.str _ _) .nil))⟩
theorem found_reads {h h₀ : Heap} {L : Addr} {ys : List Value} {ws : List (List Nat)} {n : Nat} {D : Addr} {t : Tok} {news tups : List (Addr × Obj)} (N : News h₀ L h news) (hl : h.IsList D (ys ++ [Value.str (tx []) t]).toArray) (hy : ToldAt ws n ys tups) (hs : ∀ q ∈ tups, q ∈ news) :
    ∃ as, Reads h (.ref D) (.list (datL ws n)) as := by
  obtain ⟨o, ho, hc, c, hd⟩ := hl
  have hlen := hy.1
  obtain ⟨as, ra⟩ := reads_build (h := h) (ys ++ [Value.str (tx []) t]) (datL ws n) (by simp [datL, hlen]) (fun i v d h1 h2 => by
    by_cases hi : i < n
    · obtain ⟨tp, ta, tb, hv, ht⟩ := hy.2 i hi
      rw [List.getElem?_append_left (by omega), hv] at h1
      injection h1 with h1
      subst h1
      unfold datL at h2
      rw [List.getElem?_append_left (by simp; omega), List.getElem?_map, List.getElem?_range hi] at h2
      injection h2 with h2
      subst h2
      exact TupAt.reads ⟨tp, ta, tb, rfl, (N _ (hs _ ht)).1⟩
    · have hin : i = n := by
        have := (List.getElem?_eq_some_iff.mp h1).1
        simp at this; omega
      subst hin
      rw [List.getElem?_append_right (by omega), hlen, Nat.sub_self] at h1
      unfold datL at h2
      rw [List.getElem?_append_right (by simp)] at h2
      simp at h1 h2
      subst h1 h2
      exact ⟨_, Reads.str _ _⟩)
  exact ⟨_, Reads.list ho hc hd (by simpa using ra)⟩
theorem lay_all : ∀ l : List PyData, (∀ d ∈ l, PyData.canLay0 d = true ∧ PyData.depth d ≤ 5) → PyData.canLayAll0 l = true ∧ PyData.depthAll l ≤ 5
  | [], _ => by simp [PyData.canLayAll0, PyData.depthAll]
  | d :: l, h => by
    have h1 := h d (List.mem_cons_self ..)
    have h2 := lay_all l (fun x hx => h x (List.mem_cons_of_mem _ hx))
    simp only [PyData.canLayAll0, PyData.depthAll, h1.1, h2.1, Bool.and_self, true_and]
    have := h1.2
    have := h2.2
    omega
theorem str_ok {l : List Nat} (h : ∀ c ∈ l, c < 1114112) : PyData.strOk (tx l) = true := by
  unfold PyData.strOk
  rw [List.all_toArray, List.all_eq_true]
  intro c hc
  exact decide_eq_true (h c hc)
theorem hdN_chars (k : Nat) : ∀ c ∈ hdN k, c < 1114112 := by
  unfold hdN
  split <;> decide
theorem datL_shaped {ws : List (List Nat)} (hw : Drawn ws) (n : Nat) : SeqAt.shaped (.list (datL ws n)) = true := by
  have h := lay_all (datL ws n) (fun d hd => by
    rcases List.mem_append.mp hd with hd | hd
    · obtain ⟨k, _, rfl⟩ := List.mem_map.mp hd
      have h1 := str_ok (hdN_chars k)
      have h2 := str_ok (hw.getD k).2
      simp only [tupD, PyData.canLay0, PyData.canLayAll0, PyData.depth, PyData.depthAll, h1, h2]
      decide
    · rw [List.mem_singleton.mp hd]
      exact ⟨str_ok (fun c hc => by cases hc), by simp [PyData.depth]⟩)
  unfold SeqAt.shaped
  rw [Bool.and_eq_true]
  refine ⟨by simp only [PyData.canLay0]; exact h.1, decide_eq_true ?_⟩
  have := h.2
  simp only [PyData.depth]; omega

section
variable {prog : Program} {w : World} {A : Around} {E : Value → Shared → Prop} {s : Shared}
theorem eq_found {a b : Addr} {ws : List (List Nat)} {n : Nat} {as bs : List Addr} {Q : Value → Shared → Prop} (hw : Drawn ws) (ra : Reads s.heap (.ref a) (.list (datL ws n)) as) (rb : Reads s.heap (.ref b) (.list (datL ws n)) bs) (hu : A.units + 64 < cLine)
    (h : Q (.bool true) s) : wpAny (model prog w) A (compareOp .Eq (.ref a) (.ref b)) Q E s := by
  refine eq_dataH ra rb (datL_shaped hw n) (datL_shaped hw n) hu ?_
  rw [PySem.SeqAt.eqv_refl _ (SeqAt.canLay_of_shaped (datL_shaped hw n))]
  exact h
end
end Mine

/-! # M31 -/
namespace Mine

section
variable {prog : Program} {w : World} {A : Around} {s : Shared} {h₀ : Heap} {L : Addr} {m : Str → Option Value} {env : Env}

theorem told_elt {scope : Scope} {cl : List (Str × Addr)} {C c0 DD : Addr} {oc : Obj} {m₂ : Str → Option Value} {vs : List Value} {ds : List (List Nat)} {c : Nat} {news : List (Addr × Obj)} {i : Nat} {z : Int} {t : Tok} {sa sb : Str} {k1 k2 k3 kk : Nat} {p1 p2 p3 p4 p5 p6 p7 p8 p9 p10 p11 : Pos} {Q E : Value → Shared → Prop}
    (F : Fr h₀ L s.heap m) (N : News h₀ L s.heap news) {oC : Obj} (hC : (C, oC) ∈ news) (hoC : LCg.NsObj oC m₂) (hmx : m₂ (Str.ofString "k") = some (.int z t)) (hz : z = (i : Int)) (hi : i < ds.length) (hds : ds.length ≤ 1000)
    (hoc : (c0, oc) ∈ news) (hocd : oc.data = .cell (some (.ref DD))) (hDD : (DD, listOf vs.toArray c) ∈ news) (hvs : StrsAre vs (ds.map tx)) (hsa : sa = tx [60, 97, 32, 98, 61]) (hsb : sb = tx [60, 99])
    (hk : (compEnvC scope cl C env).scope.kind = .function) (hx : (compEnvC scope cl C env).kindOf (Str.ofString "k") = some .local) (hy : (compEnvC scope cl C env).kindOf (Str.ofString "drawn") = some .cell) (hcl : (compEnvC scope cl C env).cells.lookup (Str.ofString "drawn") = some c0)
    (h : ∀ T h' tk ta tb, Fr h₀ L h' m → News h₀ L h' ((T, tupO (hdN i) (ds.getD i []) ta tb) :: news) → (∀ p ∈ news, p.1 < T) → Q (.ref T) { s with heap := h', toks := tk }) :
    wpAny (model prog w) A (eval (.Tuple [.Subscript (.List [.Constant (.str sa) k1 p1, .Constant (.str sb) k2 p2] p3) (.BinOp (.Name (Str.ofString "k") p4) .Mod (.Constant (.int 2) k3 p5) p6) p7, .Subscript (.Name (Str.ofString "drawn") p8) (.Name (Str.ofString "k") p9) p10] kk p11) (compEnvC scope cl C env)) Q E s := by
  subst hsa hsb
  have hdi : (ds.map tx)[i]? = some (tx (ds.getD i [])) := by
    rw [List.getElem?_map, List.getD_eq_getElem?_getD, List.getElem?_eq_getElem hi]; rfl
  obtain ⟨td, htd⟩ := strs_at hvs i _ hdi
  refine Tuple_ (spliced_more (Subscript_ (List_ (spliced_more (Constant_str (spliced_more (Constant_str (spliced_none ?_))))))))
  refine newList_K F N (fun D2 h₂ F₂ N₂ hD2 => ?_) (Nat.le_of_ble_eq_true rfl)
  have hns := hoC.ns (N₂ (C, oC) (List.mem_cons_of_mem _ hC)).1
  refine wpAny_BinOp (wpAny_Name (wpAny_loadName_local hk hx hns hmx (wpAny_Constant_int (mod_int' (by decide) ?_))) (by decide))
  have ez : z.fmod 2 = ((i % 2 : Nat) : Int) := by rw [hz, Int.fmod_eq_emod_of_nonneg _ (by decide)]; omega
  rw [ez]
  have hel : ∀ ta tb : Tok, ∃ tq : Tok, [Value.str (tx [60, 97, 32, 98, 61]) ta, Value.str (tx [60, 99]) tb][((i % 2 : Nat) : Int).toNat]? = some (Value.str (tx (hdN i)) tq) := by
    intro ta tb
    rw [Int.toNat_natCast]
    rcases Nat.mod_two_eq_zero_or_one i with q | q
    · exact ⟨ta, by simp [hdN, q]⟩
    · exact ⟨tb, by simp [hdN, q]⟩
  obtain ⟨tq, htq⟩ := hel s.toks (s.toks + 1)
  refine item_litK (News.isList N₂ (List.mem_cons_self ..)) (by omega) (by omega) htq ?_
  have hcell : h₂.IsCell c0 (some (Value.ref DD)) := ⟨oc, (N₂ (c0, oc) (List.mem_cons_of_mem _ hoc)).1, hocd⟩
  have hld := News.isList N₂ (List.mem_cons_of_mem _ hDD)
  refine spliced_more (Subscript_ (wpAny_Name (wpAny_loadName_cell hk hy hcl hcell (wpAny_Name (wpAny_loadName_local hk hx hns hmx ?_) (by decide))) (by decide)))
  have hvl : vs.length = ds.length := by rw [strs_len hvs, List.length_map]
  refine item_litK hld (by omega) (by omega) (by rw [hz, Int.toNat_natCast]; exact htd) ?_
  refine spliced_none ?_
  refine newTuple_N F₂ N₂ (fun h₃ F₃ N₃ => ?_) (Nat.le_of_ble_eq_true rfl)
  refine h h₂.objs.size h₃ _ tq td F₃ (fun q hq => N₃ q ?_) (fun q hq => Heap.lt_size (N₂ q (List.mem_cons_of_mem _ hq)).1)
  rcases List.mem_cons.mp hq with rfl | hq
  · exact List.mem_cons_self ..
  · exact List.mem_cons_of_mem _ (List.mem_cons_of_mem _ hq)

theorem told_rest {scope : Scope} {cl : List (Str × Addr)} {c0 DD : Addr} {oc : Obj} {vs : List Value} {ds : List (List Nat)} {c : Nat} {base : List (Addr × Obj)} {sa sb : Str} {k1 k2 k3 kk : Nat} {p1 p2 p3 p4 p5 p6 p7 p8 p9 p10 p11 : Pos} {Fin : List Value → List (Addr × Obj) → Prop}
    (hds : ds.length ≤ 1000) (hoc : (c0, oc) ∈ base) (hocd : oc.data = .cell (some (.ref DD))) (hDD : (DD, listOf vs.toArray c) ∈ base) (hvs : StrsAre vs (ds.map tx)) (hsa : sa = tx [60, 97, 32, 98, 61]) (hsb : sb = tx [60, 99])
    (hk : ∀ C, (compEnvC scope cl C env).scope.kind = .function) (hx : ∀ C, (compEnvC scope cl C env).kindOf (Str.ofString "k") = some .local) (hy : ∀ C, (compEnvC scope cl C env).kindOf (Str.ofString "drawn") = some .cell) (hcl : ∀ C, (compEnvC scope cl C env).cells.lookup (Str.ofString "drawn") = some c0)
    (fin : ∀ tys news, ToldAt ds ds.length tys news → (∀ p ∈ base, p ∈ news) → Fin tys news) : ∀ (k i : Nat) (tys : List Value) (news : List (Addr × Obj)), i + k = ds.length → ToldAt ds i tys news → (∀ p ∈ base, p ∈ news) →
    LCg.CompRest prog w A h₀ L m env (.Tuple [.Subscript (.List [.Constant (.str sa) k1 p1, .Constant (.str sb) k2 p2] p3) (.BinOp (.Name (Str.ofString "k") p4) .Mod (.Constant (.int 2) k3 p5) p6) p7, .Subscript (.Name (Str.ofString "drawn") p8) (.Name (Str.ofString "k") p9) p10] kk p11)
      (Str.ofString "k") scope cl s (fun _ => True) (fun i v => ∃ t, v = .int (0 + (i : Int)) t) Fin k i tys news
  | 0, i, tys, news, hik, ht, hb => by
    have e : i = ds.length := by omega
    subst e
    exact LCg.CompRest.zero (fin tys news ht hb)
  | k + 1, i, tys, news, hik, ht, hb => by
    refine LCg.CompRest.succ ?_
    rintro v I oI C oC D m₂ h tk E' ⟨t, rfl⟩ hoC hm F N off hne
    refine told_elt (s := { s with heap := h, toks := tk }) (i := i) F N (C := C) (oC := oC) (by simp) hoC hm (by omega) (by omega) hds (c0 := c0) (oc := oc) (List.mem_cons_of_mem _ (List.mem_cons_of_mem _ (List.mem_cons_of_mem _ (hb _ hoc)))) hocd (List.mem_cons_of_mem _ (List.mem_cons_of_mem _ (List.mem_cons_of_mem _ (hb _ hDD)))) hvs hsa hsb (hk C) (hx C) (hy C) (hcl C) ?_
    intro T h' tk' ta tb F' N' hlt
    have hTI : T ≠ I := Nat.ne_of_gt (hlt (I, oI) (by simp))
    have hTC : T ≠ C := Nat.ne_of_gt (hlt (C, oC) (by simp))
    have hTD : T ≠ D := Nat.ne_of_gt (hlt (D, LCg.lst tys) (by simp))
    refine LCg.CompEnd.intro (news' := (T, tupO (hdN i) (ds.getD i []) ta tb) :: news) F' N' ?_ ⟨⟨hTI, hTC, hTD⟩, off⟩ trivial ?_
    · intro q hq
      rcases List.mem_cons.mp hq with rfl | hq
      · simp
      rcases List.mem_cons.mp hq with rfl | hq
      · simp
      rcases List.mem_cons.mp hq with rfl | hq
      · simp
      rcases List.mem_cons.mp hq with rfl | hq
      · simp
      · exact List.mem_cons_of_mem _ (List.mem_cons_of_mem _ (List.mem_cons_of_mem _ (List.mem_cons_of_mem _ hq)))
    · refine told_rest hds hoc hocd hDD hvs hsa hsb hk hx hy hcl fin k (i + 1) _ _ (by omega) ⟨by simp [ht.1], ?_⟩ (fun q hq => List.mem_cons_of_mem _ (hb q hq))
      intro j hj
      by_cases e : j = i
      · subst e
        exact ⟨T, ta, tb, by rw [← ht.1]; simp, List.mem_cons_self ..⟩
      · obtain ⟨tp, ta', tb', h1, h2⟩ := ht.2 j (by omega)
        exact ⟨tp, ta', tb', by rw [List.getElem?_append_left (by rw [ht.1]; omega)]; exact h1, List.mem_cons_of_mem _ h2⟩
end
end Mine

/-! # M32 -/
namespace Mine

/-- a display of ints -/
inductive LitInts : List Expr → List Int → Prop
  | nil : LitInts [] []
  | cons {a : Int} {j : Nat} {p : Pos} {es : List Expr} {ps : List Int} : LitInts es ps → LitInts (.Constant (.int a) j p :: es) (a :: ps)

theorem tx_inj {a b : List Nat} (h : tx a = tx b) : a = b := by
  have := congrArg (fun z : Str => z.cps.toList) h
  simpa using this
theorem paired_tx {f : List Nat → List Nat} : ∀ {vs ys : List Value} {ds : List (List Nat)}, StrsAre vs (ds.map tx) → Paired (fun v y => ∃ d t u, v = Value.str (tx d) t ∧ y = Value.str (tx (f d)) u) vs ys → StrsAre ys ((ds.map f).map tx)
  | _, _, [], .nil, h => by cases h; exact .nil
  | _, _, d :: ds, .cons _ t r, h => by
    cases h with
    | cons hv hr =>
      obtain ⟨d', t2, u, e, rfl⟩ := hv
      injection e with e1 _
      have e2 := tx_inj e1
      subst e2
      exact .cons _ _ (paired_tx r hr)
theorem txL_of {ys : List Value} {as : List (List Nat)} (h : StrsAre ys (as.map tx)) : TxL ys as :=
  ⟨by rw [strs_len h, List.length_map], fun i a ha => strs_at h i (tx a) (by rw [List.getElem?_map, ha]; rfl)⟩

section
variable {prog : Program} {w : World} {A : Around} {E : Value → Shared → Prop} {s : Shared} {env : Env} {h₀ : Heap} {L : Addr} {m : Str → Option Value} {news : List (Addr × Obj)}
theorem ints_spliced {pos : Pos} : ∀ {es : List Expr} {ps : List Int} {s : Shared} {Q : List Value → Shared → Prop}, LitInts es ps → (∀ vs tk, IntsAre vs ps → Q vs { s with toks := tk }) → wpAny (model prog w) A (spliced (backTo pos (starEach es env))) Q E s
  | _, _, s, Q, .nil, h => spliced_none (h [] s.toks .nil)
  | _, _, s, Q, .cons hp, h => spliced_more (wpAny_Constant_int (ints_spliced hp (fun vs tk hr => h _ _ (.cons _ _ hr))))
theorem list_ints {es : List Expr} {ps : List Int} {pos : Pos} {Q : Value → Shared → Prop} (F : Fr h₀ L s.heap m) (N : News h₀ L s.heap news) (hp : LitInts es ps) (hsz : ps.length ≤ 1000)
    (h : ∀ D h' vs tk, Fr h₀ L h' m → News h₀ L h' ((D, listOf vs.toArray 0) :: news) → (∀ p ∈ news, p.1 < D) → IntsAre vs ps → Q (.ref D) { s with heap := h', toks := tk }) : wpAny (model prog w) A (eval (.List es pos) env) Q E s := by
  refine List_ (ints_spliced hp (fun vs tk hv => ?_))
  exact newList_K (s := { s with toks := tk }) F N (fun D h' F' N' hD => h D h' vs _ F' N' hD hv) (by rw [hv.length, sizeLine_eq]; omega)

/-- a comprehension over a list of texts, each text giving a text -/
theorem comp_strs {elt iter : Expr} {x : Str} {px : Pos} {scope : Scope} {cl : List (Str × Addr)} {pos : Pos} {Q : Value → Shared → Prop} {ds : List (List Nat)} (f : List Nat → List Nat) (hh : A.handled = none)
    (hclos : closureFor scope env = pure cl) (hcell : ∀ y ∈ scope.names, y.2 ≠ .cell) (hkind : scope.kind = .function)
    (hnames : ∀ y ∈ scope.names, y.2 = .local → scope.names.lookup y.1 = some .local) (hx : scope.names.lookup x = some .local)
    (h : wpAny (model prog w) A (eval iter env) (fun xv s₁ => ∃ l vs, xv = .ref l ∧ s₁.heap.IsList l vs.toArray ∧ StrsAre vs (ds.map tx) ∧ ds.length ≤ 1000 ∧
      (∀ C d t s₃ m₃ E', d ∈ ds → s₃.heap.Ns C m₃ → m₃ x = some (.str (tx d) t) → Kp s₁.heap s₃.heap →
        wpAny (model prog w) A (eval elt (compEnvC scope cl C env)) (fun y s₄ => (∃ u, y = .str (tx (f d)) u) ∧ Keeps s₃ s₄) E' s₃) ∧
      ∀ D h' tk n (ys : List Value), Kp s₁.heap h' → s₁.heap.get? D = none → h'.get? D = some (listOf ys.toArray n) → TxL ys (ds.map f) → Q (.ref D) { s₁ with heap := h', toks := tk }) E s)
    (hs : ∀ x, foldedSetIterable iter env x = pure x := by intro _; rfl) :
    wpAny (model prog w) A (eval (.ListComp elt [⟨.Name x px, iter, [], 0⟩] scope pos) env) Q E s := by
  refine comp_lst (fun v y => ∃ d t u, v = Value.str (tx d) t ∧ y = Value.str (tx (f d)) u) hh hclos hcell hkind hnames hx (wpAny_mono h (fun xv s₁ h₁ => ?_) fun _ _ e => e) hs
  obtain ⟨l, vs, rfl, hl, hvs, hsz, helt, hQ⟩ := h₁
  have hvl : vs.length = ds.length := by rw [strs_len hvs, List.length_map]
  refine ⟨l, vs, rfl, hl, by omega, ?_, ?_⟩
  · intro C v s₃ m₃ E' hC hmem hns hmx hkp htk
    obtain ⟨i, hi⟩ := List.getElem?_of_mem hmem
    have hil : i < ds.length := by rw [← hvl]; exact (List.getElem?_eq_some_iff.mp hi).1
    obtain ⟨t, ht⟩ := strs_at hvs i (tx ds[i]) (by rw [List.getElem?_map, List.getElem?_eq_getElem hil]; rfl)
    rw [ht] at hi
    injection hi with hi
    subst hi
    refine wpAny_mono (helt C ds[i] t s₃ m₃ E' (List.getElem_mem hil) hns hmx hkp) (fun y s₄ h₄ => ?_) fun _ _ e => e
    obtain ⟨⟨u, rfl⟩, hk⟩ := h₄
    exact ⟨⟨ds[i], t, u, rfl, rfl⟩, hk⟩
  · intro D h' tk n ys hkp hD hg hpr
    exact hQ D h' tk n ys hkp hD hg (txL_of (paired_tx hvs hpr))
end

section
variable {prog : Program} {w : World} {A : Around} {E : Value → Shared → Prop} {s : Shared} {h₀ : Heap} {L f : Addr} {m : Str → Option Value} {cn : Str} {cs : Scope} {ccd : Value} {cl : List (Str × Addr)} {news : List (Addr × Obj)}
/-- one of four lists of ints, by the order -/
theorem pick44 {e0 e1 e2 e3 : List Expr} {o : Nat} {p0 p1 p2 p3 pp pn ps : Pos} {t : Tok} {Q : Value → Shared → Prop} (F : Fr h₀ L s.heap m) (N : News h₀ L s.heap news) (hm : m (Str.ofString "order") = some (.int ((o : Nat) : Int) t)) (ho : o < 4)
    (l0 : LitInts e0 [0, 1, 2, 3]) (l1 : LitInts e1 [3, 2, 1, 0]) (l2 : LitInts e2 [1, 0, 3, 2]) (l3 : LitInts e3 [2, 3, 0, 1])
    (h : ∀ D h' tk vs, Fr h₀ L h' m → News h₀ L h' news → h'.IsList D vs.toArray → IntsAre vs ((ordr o).map fun (n : Nat) => (n : Int)) → Q (.ref D) { s with heap := h', toks := tk })
    (hk : cs.kind = .function := by rfl) (hx : (envX cn cs L f ccd cl).kindOf (Str.ofString "order") = some .local := by rfl) :
    wpAny (model prog w) A (eval (.Subscript (.List [.List e0 p0, .List e1 p1, .List e2 p2, .List e3 p3] pp) (.Name (Str.ofString "order") pn) ps) (envX cn cs L f ccd cl)) Q E s := by
  refine Subscript_ (List_ (spliced_more ?_))
  refine list_ints F N l0 (by decide) (fun D0 h0 v0 tk0 F0 N0 _ i0 => ?_)
  refine spliced_more (norm_tk (s := s) (h := h0) ⟨_, rfl⟩ (fun k0 => ?_))
  refine list_ints (s := { s with heap := h0, toks := k0 }) F0 N0 l1 (by decide) (fun D1 h1 v1 tk1 F1 N1 _ i1 => ?_)
  refine spliced_more (norm_tk (s := s) (h := h1) ⟨_, rfl⟩ (fun k1 => ?_))
  refine list_ints (s := { s with heap := h1, toks := k1 }) F1 N1 l2 (by decide) (fun D2 h2 v2 tk2 F2 N2 _ i2 => ?_)
  refine spliced_more (norm_tk (s := s) (h := h2) ⟨_, rfl⟩ (fun k2 => ?_))
  refine list_ints (s := { s with heap := h2, toks := k2 }) F2 N2 l3 (by decide) (fun D3 h3 v3 tk3 F3 N3 _ i3 => ?_)
  refine spliced_none (norm_tk (s := s) (h := h3) ⟨_, rfl⟩ (fun k3 => ?_))
  refine newList_K (s := { s with heap := h3, toks := k3 }) F3 N3 (fun D h4 F4 N4 hD => ?_) (Nat.le_of_ble_eq_true rfl)
  refine nameX_L F4 hm ?_ hk hx (by decide)
  have hl := News.isList N4 (List.mem_cons_self ..)
  have NN : News h₀ L h4 news := fun q hq => N4 q (by simp [hq])
  have g0 := News.isList (a := D0) (items := v0.toArray) (n := 0) (d := none) (sl := #[]) N4 (by simp)
  have g1 := News.isList (a := D1) (items := v1.toArray) (n := 0) (d := none) (sl := #[]) N4 (by simp)
  have g2 := News.isList (a := D2) (items := v2.toArray) (n := 0) (d := none) (sl := #[]) N4 (by simp)
  have g3 := News.isList (a := D3) (items := v3.toArray) (n := 0) (d := none) (sl := #[]) N4 (by simp)
  rcases four_cases ho with rfl | rfl | rfl | rfl
  · exact item_litK hl (by decide) (by decide) rfl (h _ _ _ _ F4 NN g0 i0)
  · exact item_litK hl (by decide) (by decide) rfl (h _ _ _ _ F4 NN g1 i1)
  · exact item_litK hl (by decide) (by decide) rfl (h _ _ _ _ F4 NN g2 i2)
  · exact item_litK hl (by decide) (by decide) rfl (h _ _ _ _ F4 NN g3 i3)

theorem pick44' {e0 e1 e2 e3 : List Expr} {o : Nat} {p0 p1 p2 p3 pp pn ps : Pos} {t : Tok} {Q : Value → Shared → Prop} {d : Expr} (e : Expr.List [.List e0 p0, .List e1 p1, .List e2 p2, .List e3 p3] pp = d) (F : Fr h₀ L s.heap m) (N : News h₀ L s.heap news) (hm : m (Str.ofString "order") = some (.int ((o : Nat) : Int) t)) (ho : o < 4)
    (l0 : LitInts e0 [0, 1, 2, 3]) (l1 : LitInts e1 [3, 2, 1, 0]) (l2 : LitInts e2 [1, 0, 3, 2]) (l3 : LitInts e3 [2, 3, 0, 1])
    (h : ∀ D h' tk vs, Fr h₀ L h' m → News h₀ L h' news → h'.IsList D vs.toArray → IntsAre vs ((ordr o).map fun (n : Nat) => (n : Int)) → Q (.ref D) { s with heap := h', toks := tk })
    (hk : cs.kind = .function := by rfl) (hx : (envX cn cs L f ccd cl).kindOf (Str.ofString "order") = some .local := by rfl) :
    wpAny (model prog w) A (eval (.Subscript d (.Name (Str.ofString "order") pn) ps) (envX cn cs L f ccd cl)) Q E s := by
  subst e
  exact pick44 F N hm ho l0 l1 l2 l3 h hk hx

/-- the ledger with an object more that a call made -/
theorem News.more {h h' : Heap} {D : Addr} {o : Obj} (F : Fr h₀ L h m) (N : News h₀ L h news) (hk : Kp h h') (hD : h.get? D = none) (hg : h'.get? D = some o) : News h₀ L h' ((D, o) :: news) := by
  intro q hq
  rcases List.mem_cons.mp hq with rfl | hq
  · refine ⟨hg, ?_, ?_⟩
    · intro e
      have e' : D = L := e
      obtain ⟨oL, _, _, hL, _⟩ := F.ns
      rw [e', hL] at hD; cases hD
    · cases e : h₀.get? D with
      | none => rfl
      | some o' => have := F.keep D o' e; rw [hD] at this; cases this
  · exact N.grown hk q hq
theorem News.many {h h' : Heap} {tups : List (Addr × Obj)} (F : Fr h₀ L h m) (N : News h₀ L h news) (hk : Kp h h') (ht : ∀ q ∈ tups, h.get? q.1 = none ∧ h'.get? q.1 = some q.2) : News h₀ L h' (tups ++ news) := by
  intro q hq
  rcases List.mem_append.mp hq with hq | hq
  · exact News.more F N hk (ht q hq).1 (ht q hq).2 (q.1, q.2) (List.mem_cons_self ..)
  · exact N.grown hk q hq
end
end Mine

/-! # M33 -/
namespace Mine

theorem boot_sum' : bootBuiltins "sum" = some (.builtin "sum") := by decide +kernel

section
variable {prog : Program} {w : World} {A : Around} {s : Shared} {p : Program} {loose : List Str} {mean : ExcName → Option Value} {mg mb : Str → Option Value} {Q E : Value → Shared → Prop}

theorem C_spelled' (X : (Mine.hd.heap_39 w.params).In s.heap) (T : Top p loose mean mg mb s.heap) {l sg : List Nat} {x : Str} {t u : Tok} (e : x = tx sg) (hlen : l.length ≤ 1000) (hsg : ∀ c ∈ sg, c ∈ seven)
    (ret : ∀ h' tk t', Kp s.heap h' → Q (.str (tx (l.flatMap (spl sg))) t') { s with heap := h', toks := tk }) :
    wpAny (model prog w) (AtC 390 490) (call (.ref 52) [.str (tx l) t, .str x u]) Q E s := by
  subst e
  exact C_spelled X T hlen hsg ret

theorem N_law (X : (Mine.hd.heap_39 w.params).In s.heap) (T : Top p loose mean mg mb s.heap) {lp : Addr} {vs : List Value} {ns : List Int} (hl : s.heap.IsList lp vs.toArray) (hi : IntsAre vs ns) (hlen : ns.length ≤ 63)
    (ret : ∀ h' tk, Kp s.heap h' → Q (.bool true) { s with heap := h', toks := tk }) :
    wpN (model prog w) (AtC 301 4) (call (.ref 95) [.ref lp]) Q E s := by
  refine wpN_call ?_
  refine' enter_cellsN (binds := [(Str.ofString "script", Value.ref lp)]) X T ?ho ?hcd ?room ?hb ?hki ?hnd ?h ?c2 ?c3 ?c4
  case ho => k_is
  case hcd => k_is
  case room => exact Nat.le_of_ble_eq_true rfl
  case hb => exact BindsTo.of_eq rfl
  case hki => exact rfl
  case hnd => decide +kernel
  case c2 => exact rfl
  case c3 => exact rfl
  case c4 => exact rfl
  intro L h₁ tk cells htk F N hcl
  obtain ⟨oc, rfl, hoc⟩ := CellsAre.one hcl
  clear hcl
  have TR := topRead_of T
  obtain ⟨m0, F, hm0⟩ : ∃ m0, Fr s.heap L h₁ m0 ∧ m0 (Str.ofString "script") = some (.ref lp) := ⟨_, F, rfl⟩
  -- drawn = _law_drawn(script)
  refine nExecs_cons (wpN_of (wpAny_Assign_Name (Call_ (nameX_K F X TR (by k_is) ?_ rfl rfl (by decide))) rfl))
  refine callWith_K (K := Mine.hd.heap_39 w.params) X (by k_is) (spliced_more (nameX_L F hm0 (spliced_none ⟨X.keeps F.keep, ?_⟩) rfl rfl (by decide)))
  refine any_at (C_drawn (X.keeps F.keep) (T.keeps F.keep) (F.lst hl) hi (by omega) (fun D h₂ tk₂ ys nD hD hg hys hk₂ => ?_))
  have N₂ := News.more F N hk₂ hD hg
  have F₂ := F.keeps hk₂
  have hDc : D ≠ L + 1 := by
    intro e
    have := (N (L + 1, oc) (List.mem_cons_self ..)).1
    rw [← e, hD] at this; cases this
  refine storeX_C F₂ N₂ rfl (.tail (p := (D, _)) hDc (.head (fun q hq => (nomatch hq)))) hoc (fun h₃ o3 F₃ N₃ ho3 => ?_) rfl rfl
  show wpN _ _ (execs _ _) _ _ _
  have hys' : StrsAre ys (((ns.take 3 ++ [56, 203]).map drw).map tx) := by rw [List.map_map]; exact hys
  have hdr := drawn_is (ns.take 3 ++ [56, 203])
  have hdl : 2 ≤ ((ns.take 3 ++ [56, 203]).map drw).length ∧ ((ns.take 3 ++ [56, 203]).map drw).length ≤ 5 := by simp; omega
  clear hys hg hD N₂ F₂ F N hoc
  generalize hds : (ns.take 3 ++ [56, 203]).map drw = ds at hys' hdr hdl
  clear hds
  refine norm_tkN (s := s) (h := h₃) ⟨_, rfl⟩ (fun tk₃ => ?_)
  -- order
  refine nExecs_cons (wpN_of (wpAny_Assign_Name (wpAny_BinOp (wpAny_BinOp (Call_ (nameX_B F₃ X TR (by k_is) boot_sum' (by decide) ?_ rfl rfl (by decide))))) rfl))
  refine PyProof.Rows.callWith_builtin1 (spliced_more (Subscript_ (nameX_L F₃ hm0 (wpAny_Slice (wpAny_evalPart_none (wpAny_evalPart_some (wpAny_Constant_int (wpAny_evalPart_none ?_))))) rfl rfl (by decide))))
  refine slice_list F₃ N₃ (F₃.lst hl) .none (.int _ _) (fun h₄ F₄ N₄ => ?_) (hsz := by rw [List.size_toArray, hi.length, sizeLine_eq]; omega)
  have hs3 := slice_ints_uptoW hi (y := 3) (by decide)
  replace hs3 : IntsAre (slicePick vs.toArray none (some 3) none).toList (ns.take 3) := hs3
  generalize (slicePick vs.toArray none (some 3) none) = sv at N₄ hs3
  refine spliced_none ?_
  refine sumK rfl F₄ N₄ (vs := sv.toList) (by have := News.isList N₄ (List.mem_cons_self ..); simpa using this) hs3 (fun h₅ tk₅ t₅ F₅ N₅ => ?_)
  refine wpAny_Constant_int (add_int (wpAny_Constant_int (mod_int' (by decide) ?_)))
  obtain ⟨o, ho, heo⟩ : ∃ o : Nat, o < 4 ∧ ((ns.take 3).sum + 3).fmod 4 = ((o : Nat) : Int) := by
    refine ⟨(((ns.take 3).sum + 3).fmod 4).toNat, ?_, ?_⟩ <;> rw [Int.fmod_eq_emod_of_nonneg _ (by decide)] <;> omega
  rw [heo]
  have N₅' : News s.heap L h₅ [(D, listOf ys.toArray nD), (L + 1, o3)] := fun q hq => N₅ q (List.mem_cons_of_mem _ hq)
  refine storeX_L F₅ N₅' (fun h₆ F₆ N₆ => ?_) rfl rfl
  show wpN _ _ (execs _ _) _ _ _
  refine norm_tkN (s := s) (h := h₆) ⟨_, rfl⟩ (fun tk₆ => ?_)
  clear F₃ F₄ F₅ N₃ N₄ N₅ N₅' hs3
  obtain ⟨m1, F₆, hmo⟩ : ∃ m1, Fr s.heap L h₆ m1 ∧ ∃ t, m1 (Str.ofString "order") = some (.int ((o : Nat) : Int) t) := ⟨_, F₆, _, rfl⟩
  obtain ⟨to, hmo⟩ := hmo
  have hlA : ∀ a ∈ asL ds, a.length ≤ 100000 := by
    intro a ha
    obtain ⟨d, hd, rfl⟩ := List.mem_map.mp ha
    have := spl_flat_len sgA d
    have := (hdr d hd).1
    omega
  have hlC : ∀ a ∈ bsL ds, a.length ≤ 100000 := by
    intro a ha
    obtain ⟨d, hd, rfl⟩ := List.mem_map.mp ha
    have := spl_flat_len sgC d
    have := (hdr d hd).1
    omega
  have hal : (asL ds).length = ds.length := by simp [asL]
  have hbl : (bsL ds).length = ds.length := by simp [bsL]
  have htxt : laidL (asL ds) (bsL ds) (asL ds).length = remL (asL ds) (bsL ds) ds.length 0 := by rw [laid_rem, hal]
  have hNl := remL_len hdr ds.length 0
  have hNc := remL_chars hdr ds.length 0
  obtain ⟨rr, hrr⟩ : ∃ r, remL (asL ds) (bsL ds) ds.length 0 = 60 :: r := by
    obtain ⟨k, hk⟩ : ∃ k, ds.length = k + 1 := ⟨ds.length - 1, by omega⟩
    rw [hk]; exact remL_head _ _ k
  generalize hT : remL (asL ds) (bsL ds) ds.length 0 = txt at htxt hNl hNc hrr
  have hl4 : ∀ pl : List Nat, pl.length = 4 → (bytL (octN pl txt)).length = txt.length * 4 := fun pl hp => by rw [bytL, List.length_map, octN_len pl hp]
  -- text
  refine nExecs_cons (wpN_of (wpAny_Assign_Name (Call_ (nameX_K F₆ X TR (by k_is) ?_ rfl rfl (by decide))) rfl))
  refine callWith_K (K := Mine.hd.heap_39 w.params) X (by k_is) ?_
  refine spliced_more (comp_strs (ds := ds) (fun l => l.flatMap (spl sgA)) rfl rfl (by decide) rfl (by decide) rfl ?_)
  refine nameX_C N₆ rfl (List.mem_cons_of_mem _ (List.mem_cons_self ..)) ho3 ⟨D, ys, rfl, News.isList N₆ (List.mem_cons_self ..), hys', by omega, ?_, ?_⟩ rfl rfl (by decide)
  · intro C d t s₃ m₃ E' hd hns hmx hkp
    have kp : Kp s.heap s₃.heap := fun b o e => hkp b o (F₆.keep b o e)
    refine Call_ (Name_function_global rfl rfl (loadGlobal_global (T.g.keeps kp) (mg_of X T.g (by k_is)) ?_) (by decide))
    refine callWith_K (K := Mine.hd.heap_39 w.params) X (by k_is) (spliced_more (wpAny_Name (wpAny_loadName_local rfl rfl hns hmx (spliced_none ⟨X.keeps kp, ?_⟩)) (by decide)))
    exact any_at (C_attrib (X.keeps kp) (T.keeps kp) (hdr d hd).1 (fun h' tk t' hk _ => ⟨⟨t', by rw [escA_spl]⟩, h', tk, rfl, hk⟩))
  intro D1 h₇ tk₇ n₁ y1 hk₇ hD1 hg1 htx1
  have F₇ := F₆.keeps hk₇
  have N₇ := News.more F₆ N₆ hk₇ hD1 hg1
  refine norm_tk (s := s) (h := h₇) ⟨_, rfl⟩ (fun tk₇' => ?_)
  refine spliced_more (comp_strs (ds := ds) (fun l => l.flatMap (spl sgC)) rfl rfl (by decide) rfl (by decide) rfl ?_)
  refine nameX_C N₇ rfl (List.mem_cons_of_mem _ (List.mem_cons_of_mem _ (List.mem_cons_self ..))) ho3 ⟨D, ys, rfl, News.isList N₇ (List.mem_cons_of_mem _ (List.mem_cons_self ..)), hys', by omega, ?_, ?_⟩ rfl rfl (by decide)
  · intro C d t s₃ m₃ E' hd hns hmx hkp
    have kp : Kp s.heap s₃.heap := fun b o e => hkp b o (F₇.keep b o e)
    refine Call_ (Name_function_global rfl rfl (loadGlobal_global (T.g.keeps kp) (mg_of X T.g (by k_is)) ?_) (by decide))
    refine callWith_K (K := Mine.hd.heap_39 w.params) X (by k_is) (spliced_more (wpAny_Name (wpAny_loadName_local rfl rfl hns hmx (spliced_none ⟨X.keeps kp, ?_⟩)) (by decide)))
    exact any_at (C_cdata (X.keeps kp) (T.keeps kp) (hdr d hd).1 (fun h' tk t' hk _ => ⟨⟨t', by rw [escC_spl]⟩, h', tk, rfl, hk⟩))
  intro D2 h₈ tk₈ n₂ y2 hk₈ hD2 hg2 htx2
  have F₈ := F₇.keeps hk₈
  have N₈ := News.more F₇ N₇ hk₈ hD2 hg2
  refine norm_tk (s := s) (h := h₈) ⟨_, rfl⟩ (fun tk₈' => ?_)
  refine spliced_none ⟨X.keeps F₈.keep, ?_⟩
  refine any_at (C_laid (X.keeps F₈.keep) (T.keeps F₈.keep) (as := asL ds) (bs := bsL ds) (News.isList N₈ (List.mem_cons_of_mem _ (List.mem_cons_self ..))) htx1 (News.isList N₈ (List.mem_cons_self ..)) htx2 (by rw [hal, hbl]) (by omega) hlA hlC (fun h₉ tk₉ t₉ hk₉ => ?_))
  rw [htxt]
  have F₉ := F₈.keeps hk₉
  have N₉ : News s.heap L h₉ [(D, listOf ys.toArray nD), (L + 1, o3)] := fun q hq => N₈.grown hk₉ q (List.mem_cons_of_mem _ (List.mem_cons_of_mem _ hq))
  refine storeX_L F₉ N₉ (fun ha Fa Na => ?_) rfl rfl
  show wpN _ _ (execs _ _) _ _ _
  refine norm_tkN (s := s) (h := ha) ⟨_, rfl⟩ (fun tka => ?_)
  clear F₆ F₇ F₈ F₉ N₆ N₇ N₈ N₉ hk₇ hk₈ hk₉ hD1 hD2 hg1 hg2 htx1 htx2
  obtain ⟨m2, Fa, hmo, hmt⟩ : ∃ m2, Fr s.heap L ha m2 ∧ (∃ t, m2 (Str.ofString "order") = some (.int ((o : Nat) : Int) t)) ∧ ∃ t, m2 (Str.ofString "text") = some (.str (tx txt) t) := ⟨_, Fa, ⟨_, hmo⟩, _, rfl⟩
  obtain ⟨to, hmo⟩ := hmo
  obtain ⟨tt, hmt⟩ := hmt
  -- sent
  refine nExecs_cons (nAssign_Name (nCall (nameX_K Fa X TR (by k_is) ?_ rfl rfl (by decide))) rfl)
  refine nCallWith_K (K := Mine.hd.heap_39 w.params) (by k_is) (wpN_of ?_)
  refine spliced_more (Call_ (nameX_K Fa X TR (by k_is) ?_ rfl rfl (by decide)))
  refine callWith_K (K := Mine.hd.heap_39 w.params) X (by k_is) (spliced_more (nameX_L Fa hmt ?_ rfl rfl (by decide)))
  refine spliced_more (list_ints (ps := [0, 1, 2, 3]) Fa Na (.cons (.cons (.cons (.cons .nil)))) (by decide) (fun D4 hb vb tkb Fb Nb _ ib => ?_))
  refine spliced_none ⟨X.keeps Fb.keep, ?_⟩
  refine norm_tk (s := s) (h := hb) ⟨_, rfl⟩ (fun tkb' => ?_)
  refine any_at (C_octets (X.keeps Fb.keep) (T.keeps Fb.keep) (pl := [0, 1, 2, 3]) (News.isList Nb (List.mem_cons_self ..)) ib rfl (by decide) hNc (by omega) (fun hc tkc tc hkc => ?_))
  rw [byt_eq]
  have Fc := Fb.keeps hkc
  have Nc : News s.heap L hc [(D, listOf ys.toArray nD), (L + 1, o3)] := fun q hq => Nb.grown hkc q (List.mem_cons_of_mem _ hq)
  refine norm_tk (s := s) (h := hc) ⟨_, rfl⟩ (fun tkc' => ?_)
  refine spliced_more (pick4 (o := o) Fc Nc hmo ho (fun hd' tkd td Fd Nd => ?_))
  refine spliced_more (pick4 (o := o) Fd Nd hmo ho (fun he tke te Fe Ne => spliced_none ⟨X.keeps Fe.keep, ?_⟩))
  have eA : ([0, 0, 2, 2] : List Int).getD o 0 = ((bA o : Nat) : Int) := by
    rcases four_cases ho with rfl | rfl | rfl | rfl <;> rfl
  have eB : ([0, 4, 0, 4] : List Int).getD o 0 = ((bB o : Nat) : Int) := by
    rcases four_cases ho with rfl | rfl | rfl | rfl <;> rfl
  have hlb := hl4 [0, 1, 2, 3] rfl
  refine norm_tkN (s := s) (h := he) ⟨_, rfl⟩ (fun tke' => ?_)
  refine wpN_at (N_turned (X.keeps Fe.keep) (T.keeps Fe.keep) (a := bB o) (b := bA o) eB eA (Div_of ho bB (.inr rfl) hlb) (Div_of ho bA (.inl rfl) hlb) (by omega) (fun hf tkf tf hkf => ?_))
  rw [turn_out ho]
  refine storeX_L (Fe.keeps hkf) (Ne.grown hkf) (fun hg Fg Ng => ?_) rfl rfl
  show wpN _ _ (execs _ _) _ _ _
  refine norm_tkN (s := s) (h := hg) ⟨_, rfl⟩ (fun tkg => ?_)
  clear Fa Fb Fc Fd Fe Na Nb Nc Nd Ne hkc hkf eA eB hlb
  obtain ⟨m3, Fg, hmo, hms⟩ : ∃ m3, Fr s.heap L hg m3 ∧ (∃ t, m3 (Str.ofString "order") = some (.int ((o : Nat) : Int) t)) ∧ ∃ t, m3 (Str.ofString "sent") = some (.bytes (bytL (octN (ordr o) txt)).toArray t) := ⟨_, Fg, ⟨_, hmo⟩, _, rfl⟩
  obtain ⟨to, hmo⟩ := hmo
  obtain ⟨ts, hms⟩ := hms
  -- plain
  refine nExecs_cons (wpN_of (wpAny_Assign_Name (Call_ (nameX_K Fg X TR (by k_is) ?_ rfl rfl (by decide))) rfl))
  refine callWith_K (K := Mine.hd.heap_39 w.params) X (by k_is) ?_
  refine spliced_more (comp_strs (ds := ds) (fun l => l.flatMap (spl sgA)) rfl rfl (by decide) rfl (by decide) rfl ?_)
  refine nameX_C Ng rfl (List.mem_cons_of_mem _ (List.mem_cons_self ..)) ho3 ⟨D, ys, rfl, News.isList Ng (List.mem_cons_self ..), hys', by omega, ?_, ?_⟩ rfl rfl (by decide)
  · intro C d t s₃ m₃ E' hd hns hmx hkp
    have kp : Kp s.heap s₃.heap := fun b o e => hkp b o (Fg.keep b o e)
    refine Call_ (Name_function_global rfl rfl (loadGlobal_global (T.g.keeps kp) (mg_of X T.g (by k_is)) ?_) (by decide))
    refine callWith_K (K := Mine.hd.heap_39 w.params) X (by k_is) (spliced_more (wpAny_Name (wpAny_loadName_local rfl rfl hns hmx (spliced_more (Constant_str (spliced_none ⟨X.keeps kp, ?_⟩)))) (by decide)))
    have hd8 := (hdr d hd).1
    show wpAny _ _ (call (.ref 52) [.str (tx d) t, .str _ _]) _ _ _
    refine any_at (C_spelled' (s := { s₃ with toks := s₃.toks + 1 }) (l := d) (sg := sgA) (X.keeps kp) (T.keeps kp) ?_ (by omega) sgA_seven ?_)
    · decide +kernel
    · intro h' tk t' hk
      exact ⟨⟨t', rfl⟩, h', tk, rfl, hk⟩
  intro D1 h₇ tk₇ n₁ y1 hk₇ hD1 hg1 htx1
  have F₇ := Fg.keeps hk₇
  have N₇ := News.more Fg Ng hk₇ hD1 hg1
  refine norm_tk (s := s) (h := h₇) ⟨_, rfl⟩ (fun tk₇' => ?_)
  refine spliced_more (comp_strs (ds := ds) (fun l => l.flatMap (spl sgC)) rfl rfl (by decide) rfl (by decide) rfl ?_)
  refine nameX_C N₇ rfl (List.mem_cons_of_mem _ (List.mem_cons_of_mem _ (List.mem_cons_self ..))) ho3 ⟨D, ys, rfl, News.isList N₇ (List.mem_cons_of_mem _ (List.mem_cons_self ..)), hys', by omega, ?_, ?_⟩ rfl rfl (by decide)
  · intro C d t s₃ m₃ E' hd hns hmx hkp
    have kp : Kp s.heap s₃.heap := fun b o e => hkp b o (F₇.keep b o e)
    refine Call_ (Name_function_global rfl rfl (loadGlobal_global (T.g.keeps kp) (mg_of X T.g (by k_is)) ?_) (by decide))
    refine callWith_K (K := Mine.hd.heap_39 w.params) X (by k_is) (spliced_more (wpAny_Name (wpAny_loadName_local rfl rfl hns hmx (spliced_more (Constant_str (spliced_none ⟨X.keeps kp, ?_⟩)))) (by decide)))
    have hd8 := (hdr d hd).1
    show wpAny _ _ (call (.ref 52) [.str (tx d) t, .str _ _]) _ _ _
    refine any_at (C_spelled' (s := { s₃ with toks := s₃.toks + 1 }) (l := d) (sg := sgC) (X.keeps kp) (T.keeps kp) ?_ (by omega) sgC_seven ?_)
    · decide +kernel
    · intro h' tk t' hk
      exact ⟨⟨t', rfl⟩, h', tk, rfl, hk⟩
  intro D2 h₈ tk₈ n₂ y2 hk₈ hD2 hg2 htx2
  have F₈ := F₇.keeps hk₈
  have N₈ := News.more F₇ N₇ hk₈ hD2 hg2
  refine norm_tk (s := s) (h := h₈) ⟨_, rfl⟩ (fun tk₈' => ?_)
  refine spliced_none ⟨X.keeps F₈.keep, ?_⟩
  refine any_at (C_laid (X.keeps F₈.keep) (T.keeps F₈.keep) (as := asL ds) (bs := bsL ds) (News.isList N₈ (List.mem_cons_of_mem _ (List.mem_cons_self ..))) htx1 (News.isList N₈ (List.mem_cons_self ..)) htx2 (by rw [hal, hbl]) (by omega) hlA hlC (fun h₉ tk₉ t₉ hk₉ => ?_))
  rw [htxt]
  have F₉ := F₈.keeps hk₉
  have N₉ : News s.heap L h₉ [(D, listOf ys.toArray nD), (L + 1, o3)] := fun q hq => N₈.grown hk₉ q (List.mem_cons_of_mem _ (List.mem_cons_of_mem _ hq))
  refine storeX_L F₉ N₉ (fun ha Fa Na => ?_) rfl rfl
  show wpN _ _ (execs _ _) _ _ _
  refine norm_tkN (s := s) (h := ha) ⟨_, rfl⟩ (fun tka => ?_)
  clear Fg F₇ F₈ F₉ Ng N₇ N₈ N₉ hk₇ hk₈ hk₉ hD1 hD2 hg1 hg2 htx1 htx2
  obtain ⟨m4, Fa, hmo, hms, hmp⟩ : ∃ m4, Fr s.heap L ha m4 ∧ (∃ t, m4 (Str.ofString "order") = some (.int ((o : Nat) : Int) t)) ∧ (∃ t, m4 (Str.ofString "sent") = some (.bytes (bytL (octN (ordr o) txt)).toArray t)) ∧ ∃ t, m4 (Str.ofString "plain") = some (.str (tx txt) t) := ⟨_, Fa, ⟨_, hmo⟩, ⟨_, hms⟩, _, rfl⟩
  obtain ⟨to, hmo⟩ := hmo
  obtain ⟨ts, hms⟩ := hms
  obtain ⟨tp, hmp⟩ := hmp
  -- the octets are those of the elements
  obtain ⟨ol4, olt⟩ := ordr_len ho
  generalize hK : Expr.List (Expr.List _ _ :: _) _ = qexp
  refine nExecs_cons (wpN_of (wpAny_If (wpAny_isTrue_Compare1 (nameX_L Fa hms ?_ rfl rfl (by decide)) rfl)))
  refine Call_ (nameX_K Fa X TR (by k_is) ?_ rfl rfl (by decide))
  refine callWith_K (K := Mine.hd.heap_39 w.params) X (by k_is) (spliced_more (nameX_L Fa hmp ?_ rfl rfl (by decide)))
  refine spliced_more (pick44' (o := o) hK Fa Na hmo ho (.cons (.cons (.cons (.cons .nil)))) (.cons (.cons (.cons (.cons .nil)))) (.cons (.cons (.cons (.cons .nil)))) (.cons (.cons (.cons (.cons .nil)))) (fun D5 hb tkb v5 Fb Nb hl5 hi5 => ?_) rfl rfl)
  clear hK
  refine spliced_none ⟨X.keeps Fb.keep, ?_⟩
  refine norm_tk (s := s) (h := hb) ⟨_, rfl⟩ (fun tkb' => ?_)
  refine any_at (C_octets (X.keeps Fb.keep) (T.keeps Fb.keep) (pl := ordr o) hl5 hi5 ol4 olt hNc (by omega) (fun hc tkc tc hkc => ?_))
  rw [byt_eq]
  refine ne_bytes (wpAny_truthy_bool ?_)
  have e0 : ((bytL (octN (ordr o) txt)).toArray.toList != (bytL (octN (ordr o) txt)).toArray.toList) = false := bne_self_eq_false _
  rw [e0]
  show wpAny _ _ (execs [] _) _ _ _
  refine wpAny_execs_nil ?_
  show wpN _ _ (execs _ _) _ _ _
  have Fc := Fb.keeps hkc
  have Nc := Nb.grown hkc
  refine norm_tkN (s := s) (h := hc) ⟨_, rfl⟩ (fun tkc' => ?_)
  clear Fa Fb Na Nb hkc hl5 hi5 e0
  -- told
  have hyl : ys.length = ds.length := by rw [strs_len hys', List.length_map]
  have hysz : ((ys.toArray.size : Nat) : Int) = ((ds.length : Nat) : Int) := by rw [List.size_toArray, hyl]
  refine nExecs_cons (wpN_of (LCg.Assign_ListComp_U Fc rfl rfl rfl (by decide) rfl (by decide) rfl rfl rfl ?_))
  refine Call_ (nameX_B Fc X TR (by k_is) boot_range (by decide) ?_ rfl rfl (by decide))
  refine PyProof.Rows.callWith_type1 (spliced_more (Call_ (nameX_B Fc X TR (by k_is) boot_len (by decide) ?_ rfl rfl (by decide))))
  refine PyProof.Rows.callWith_builtin1 (spliced_more (nameX_C Nc rfl (List.mem_cons_of_mem _ (List.mem_cons_self ..)) ho3 (spliced_none ?_) rfl rfl (by decide)))
  refine len_list (News.isList Nc (List.mem_cons_self ..)) (by rw [List.size_toArray, hyl]; omega) (spliced_none ?_)
  rw [hysz]
  refine range1_rows Fc Nc ?_
  intro hd' tkd t1 u1 v1 hr Fd Nd _
  have hsz : Builtin.Range.rangeSize 0 ((ds.length : Nat) : Int) 1 = ((ds.length : Nat) : Int) := by
    have := rng_size (n := ds.length) (c := 1) (by omega)
    rwa [Nat.mul_one] at this
  refine LCg.CompSrc.range rfl Fd Nd hr (rng_small hsz (by omega) (by omega) (by omega)) hsz (by rw [sizeLine_eq]; omega) (fun g => told_rest (ds := ds) (vs := ys) (c := nD) (base := [(D, listOf ys.toArray nD), (L + 1, o3)]) (by omega) (List.mem_cons_of_mem _ (List.mem_cons_self ..)) ho3 (List.mem_cons_self ..) hys' (by decide +kernel) (by decide +kernel) (fun _ => rfl) (fun _ => rfl) (fun _ => rfl) (fun _ => rfl) ?_ ds.length 0 [] _ (by omega) ⟨rfl, (fun k hk => absurd hk (Nat.not_lt_zero _))⟩ (fun p hp => hp))
  intro tys nw hto hbase Dt ht tkt Ft Nt hoff
  show wpN _ _ (execs _ _) _ _ _
  refine norm_tkN (s := s) (h := ht) ⟨_, rfl⟩ (fun tkt' => ?_)
  clear Fc Nc Fd Nd hr
  obtain ⟨m5, Ft, hms, hmd⟩ : ∃ m5, Fr s.heap L ht m5 ∧ m5 (Str.ofString "sent") = some (.bytes (bytL (octN (ordr o) txt)).toArray ts) ∧ m5 (Str.ofString "told") = some (.ref Dt) := ⟨_, Ft, hms, rfl⟩
  have hmD : (D, listOf ys.toArray nD) ∈ nw := hbase _ (List.mem_cons_self ..)
  have hmc : (L + 1, o3) ∈ nw := hbase _ (List.mem_cons_of_mem _ (List.mem_cons_self ..))
  have hev : ∀ k, k < ds.length → k % 2 = 0 → 34 ∉ (asL ds).getD k [] ∧ ReadsTo ((asL ds).getD k []) (ds.getD k []) := by
    intro k _ _
    rw [asL_getD]
    exact ⟨spl_free (by decide) sgA_seven (.inl rfl) _, read_law sgA (by decide) sgA_seven _⟩
  have hod : ∀ k, k < ds.length → k % 2 = 1 → 60 ∉ (bsL ds).getD k [] ∧ ReadsTo ((bsL ds).getD k []) (ds.getD k []) := by
    intro k _ _
    rw [bsL_getD]
    exact ⟨spl_free (by decide) sgC_seven (.inr rfl) _, read_law sgC (by decide) sgC_seven _⟩
  have hlens : ∀ k, ((asL ds).getD k []).length ≤ 1000 ∧ ((bsL ds).getD k []).length ≤ 1000 ∧ (ds.getD k []).length ≤ 1000 := by
    intro k
    rw [asL_getD, bsL_getD]
    have h1 := spl_flat_len sgA (ds.getD k [])
    have h2 := spl_flat_len sgC (ds.getD k [])
    have h3 := (hdr.getD k).1
    refine ⟨?_, ?_, ?_⟩ <;> omega
  have hrl : ∀ k i, k ≤ 5 → (remL (asL ds) (bsL ds) k i).length ≤ 100000 := by
    intro k i hk
    have := remL_len hdr k i
    omega
  -- the end
  refine nExecs_cons (nReturn_some (nCompare1 (nCall (nameX_K Ft X TR (by k_is) ?_ rfl rfl (by decide)))))
  refine nCallWith_K (K := Mine.hd.heap_39 w.params) (by k_is) (nSpliced_more (nCall (nameX_K Ft X TR (by k_is) ?_ rfl rfl (by decide))))
  refine nCallWith_K (K := Mine.hd.heap_39 w.params) (by k_is) (wpN_of (spliced_more (nameX_L Ft hms (spliced_none ⟨X.keeps Ft.keep, ?_⟩) rfl rfl (by decide))))
  refine wpN_at (N_signs (X.keeps Ft.keep) (T.keeps Ft.keep) (o := o) (l := txt) ho (hl4 (ordr o) ol4) (by rw [hrr]; simp) hNc (by omega) (by rw [hrr]; exact first60 ho rr) (turn_back ho txt) (fun h1 tk1 t1 hk1 => ?_))
  have F1 := Ft.keeps hk1
  have N1 := Nt.grown hk1
  refine norm_tk (s := s) (h := h1) ⟨_, rfl⟩ (fun tk1' => ?_)
  refine spliced_more (Call_ (nameX_B F1 X TR (by k_is) boot_len (by decide) ?_ rfl rfl (by decide)))
  refine PyProof.Rows.callWith_builtin1 (spliced_more (nameX_C N1 rfl (List.mem_cons_of_mem _ hmc) ho3 (spliced_none ?_) rfl rfl (by decide)))
  refine len_list (News.isList N1 (List.mem_cons_of_mem _ hmD)) (by rw [List.size_toArray, hyl]; omega) (spliced_none ⟨X.keeps F1.keep, ?_⟩)
  rw [hysz, ← hT]
  refine wpN_of (norm_tk (s := s) (h := h1) ⟨_, rfl⟩ (fun tk1'' => ?_))
  refine any_at (C_parted (X.keeps F1.keep) (T.keeps F1.keep) (as := asL ds) (bs := bsL ds) (ws := ds) (n := ds.length) hdl.2 hev hod hlens hrl (fun D6 h6 tk6 y6 t6 tups hD6 hg6 hto6 hfr6 hk6 => ?_))
  have F6 := F1.keeps hk6
  have N6 : News s.heap L h6 ((D6, listOf (y6 ++ [Value.str (tx []) t6]).toArray 0) :: (tups ++ ((Dt, LCg.lst tys) :: nw))) := by
    intro q hq
    rcases List.mem_cons.mp hq with rfl | hq
    · exact News.more F1 N1 hk6 hD6 hg6 _ (List.mem_cons_self ..)
    · exact News.many F1 N1 hk6 hfr6 q hq
  refine norm_tk (s := s) (h := h6) ⟨_, rfl⟩ (fun tk6' => ?_)
  clear N1 Nt F1 Ft hev hod hlens hrl hfr6 hg6 hk6 hk1
  refine wpAny_BinOp (nameX_L F6 hmd ?_ rfl rfl (by decide))
  refine List_ (spliced_more (Constant_str (spliced_none ?_)))
  refine newList_K F6 N6 (fun D7 h7 F7 N7 _ => ?_) (Nat.le_of_ble_eq_true rfl)
  have hlt : h7.IsList Dt tys.toArray := News.isList (n := tys.length) (d := none) (sl := #[]) N7 (by simp)
  refine add_lists F7 N7 hlt (News.isList N7 (List.mem_cons_self ..)) (fun h8 F8 N8 => ?_) (by rw [hto.1, sizeLine_eq]; simp only [List.length_cons, List.length_nil]; omega)
  have hl6 : h8.IsList D6 (y6 ++ [Value.str (tx []) t6]).toArray := News.isList (n := 0) (d := none) (sl := #[]) N8 (by simp)
  obtain ⟨as6, ra⟩ := found_reads N8 hl6 hto6 (fun q hq => by simp [hq])
  obtain ⟨as8, rb⟩ := found_reads N8 (News.isList N8 (List.mem_cons_self ..)) hto (fun q hq => by simp [hq])
  exact eq_found hdr ra rb (Nat.lt_of_succ_le (Nat.le_of_ble_eq_true rfl)) (ret _ _ F8.keep)
end
end Mine

/-! # M34 -/

theorem PySem.Challenge.cw_oc0016_01_holds : PySem.Challenge.rw_oc0016_01.Holds := by
  refine Mine.hd ?_
  k_fill
  intro w s₀ s₁ mg mb G Y fa o pm cd doc dV kV ho hd hcd hD hmg hg args vals as hpre hlay hrd hwl hlo
  have KX := kIn_of Y
  have T := G.T
  have e95 : mg (Str.ofString "law") = some (.ref 95) := mg_of KX T.g (by k_is)
  replace hmg : mg (Str.ofString "law") = some (.ref fa) := hmg
  rw [e95] at hmg
  injection hmg with hmg
  injection hmg with hmg
  subst hmg
  clear ho hd hcd hD Y
  wrow_args hpre hlay hrd hwl hlo
  rename_i ns _ _ _ _ _ _ _ lp vs _ hl _ _ _ hi _ hc _
  have hc' : ns.length ≤ 63 := by omega
  clear hc
  refine Mine.wpN_at (D := 301) (U := 4) ?_ rfl (Nat.le_refl _) (Nat.le_refl _)
  refine Mine.N_law KX T hl hi hc' ?_
  intro h' tk hk
  have ok : OldK s₁.heap h' := .of_keep hk
  have ab : AllBare s₁.gens := .of_eq hg
  refine ⟨.inl ⟨.bool true, .bool true, [], rfl, ?_, .bool _, ?_, ?_⟩, ok, rfl, ab⟩
  · intro cls; rfl
  · exact postW_of rfl (by wtm_val) rfl
  · intro _
    exact ⟨List.nodup_nil, fun _ h => nomatch h⟩

