import PyProof.Rows.All
import Wide.All
import OpenK.AllK
import Wide.FinOn
import PySem.Challenge.RW_pk0009_01
set_option Elab.async false
section
open PySem PySem.W PyProof.Rows PySem.Calls
set_option maxRecDepth 100000
namespace Mine

/-- a code that holds no buffer of a bytearray -/
noncomputable def cleanCode : Code → Bool
  | .builtin id _ => ["claim.caller", "type.__call__", "bytearray.__init__"].contains id
  | _ => true
noncomputable def Clean (l : List (Code × Pos)) : Prop := ∀ x ∈ l, cleanCode x.1 = true
theorem Clean.cons {c : Code} {p : Pos} {l : List (Code × Pos)} (h : cleanCode c = true) (hl : Clean l) : Clean ((c, p) :: l) := by
  intro x hx
  rcases List.mem_cons.mp hx with rfl | hx
  · exact h
  · exact hl x hx

noncomputable def wpC {α : Type} (M : Model) (A : Around) (t : Sem α) (Q : α → Shared → Prop) (E : Value → Shared → Prop) (s : Shared) : Prop :=
  ∀ Γ p, PySem.Ctx.In Γ A → cleanCode Γ.code = true → Clean Γ.below → Sem.wp M Γ t (fun a _ s' => Q a s') (fun e _ s' => E e s') p s
noncomputable def codeC (M : Model) (A : Around) (c : Code) (R : Result → Shared → Prop) (s : Shared) : Prop :=
  ∀ Γ p, Γ.code = c → PySem.Ctx.Below Γ A → Clean Γ.below → wpCode M Γ R p s

section
variable {α β : Type} {M : Model} {A : Around} {E : Value → Shared → Prop} {s : Shared}
theorem wpC_any {t : Sem α} {Q : α → Shared → Prop} (h : wpAny M A t Q E s) : wpC M A t Q E s := fun Γ p hI _ _ => h Γ p hI
theorem codeC_any {c : Code} {R : Result → Shared → Prop} (h : codeAny M A c R s) : codeC M A c R s := fun Γ p hc hB _ => h Γ p hc hB
theorem wpC_pure {a : α} {Q : α → Shared → Prop} (h : Q a s) : wpC M A (pure a) Q E s := fun _ _ _ _ _ => h
theorem wpC_mono {t : Sem α} {Q Q' : α → Shared → Prop} {E' : Value → Shared → Prop} (h : wpC M A t Q E s)
    (hQ : ∀ a s, Q a s → Q' a s) (hE : ∀ e s, E e s → E' e s) : wpC M A t Q' E' s :=
  fun Γ p hI hc hb => Sem.wp_mono M Γ t (fun a _ s => hQ a s) (fun e _ s => hE e s) p s (h Γ p hI hc hb)
theorem wpC_bind {m : Sem α} {f : α → Sem β} {Q : β → Shared → Prop} (h : wpC M A m (fun a s' => wpC M A (f a) Q E s') E s) :
    wpC M A (m >>= f) Q E s := fun Γ p hI hc hb => by
  rw [Sem.wp_bind']
  exact Sem.wp_mono M Γ m (fun a p' s' h' => h' Γ p' hI hc hb) (fun _ _ _ h' => h') p s (h Γ p hI hc hb)
/-- a part off the path -/
theorem wpC_part {m : Sem α} {f : α → Sem β} {Q : β → Shared → Prop} (h : wpAny M A m (fun a s' => wpC M A (f a) Q E s') E s) :
    wpC M A (m >>= f) Q E s := wpC_bind (wpC_any h)
theorem wpC_holding {vs : List Value} {m : Sem α} {Q : α → Shared → Prop} (h : wpC M A m Q E s) : wpC M A (holding vs m) Q E s :=
  fun Γ p hI hc hb => by rw [Sem.wp_holding]; exact h Γ p hI hc hb
theorem wpC_onRaise {m : Sem α} {k : Value → Sem Unit} {Q : α → Shared → Prop}
    (h : wpC M A m Q (fun e s' => wpC M A (k e) (fun _ s'' => E e s'') E s') s) : wpC M A (m.onRaise k) Q E s := fun Γ p hI hc hb => by
  rw [Sem.wp_onRaise]
  exact Sem.wp_mono M Γ m (fun _ _ _ h' => h') (fun e p' s' h' => h' Γ p' hI hc hb) p s (h Γ p hI hc hb)
theorem codeC_mono {c : Code} {R R' : Result → Shared → Prop} (h : codeC M A c R s) (hR : ∀ r s, R r s → R' r s) : codeC M A c R' s :=
  fun Γ p hc hB hb => wpCode_mono hR (h Γ p hc hB hb)
theorem wpC_run {c : Code} {h : Option Value} {Q : Flow → Shared → Prop}
    (hc : codeC M (A.mark h) c (fun r s' => match r with | .ok f => Q f s' | .error e => E e s') s) (hnb : h ≠ some byPass := by intro x; cases x) :
    wpC M A (run c h) Q E s :=
  fun Γ p hI hcl hb => by rw [Sem.wp_run]; exact hc _ p rfl (hI.enter c h p hnb) (.cons hcl hb)
theorem wpC_runValue {c : Code} {Q : Value → Shared → Prop}
    (hc : codeC M A c (fun r s' => match r with | .ok (.ret v) => Q v s' | .ok _ => False | .error e => E e s') s) :
    wpC M A (runValue c) Q E s := by
  unfold runValue
  refine wpC_bind (wpC_mono (wpC_run (Q := fun f s' => match f with | .ret v => Q v s' | _ => False) (codeC_mono hc ?_)) ?_ fun _ _ x => x)
  · intro r s' h
    cases r with
    | error e => exact h
    | ok f => cases f <;> exact h
  · intro f s' h
    cases f with
    | ret v => exact wpC_pure h
    | next => exact h.elim
    | brk => exact h.elim
    | cont => exact h.elim
theorem wpC_call {f : Value} {pos : List Value} {kw : List (Str × Value)} {Q : Value → Shared → Prop}
    (hc : codeC M A (.call f ⟨pos, kw⟩) (fun r s' => match r with | .ok (.ret v) => Q v s' | .ok _ => False | .error e => E e s') s) :
    wpC M A (call f pos kw) Q E s := wpC_runValue hc
theorem codeC_of_tree {c : Code} {R : Result → Shared → Prop} (hcl : cleanCode c = true)
    (h : wpC M (A.under c) (M.den c) (fun fin s' => match fin with | .done f => R (.ok f) s' | .again c' => c'.quiet = true ∧ codeC M A c' R s')
      (fun e s' => R (.error e) s') s) : codeC M A c R s := fun Γ p hc hΓ hb => by
  rw [wpCode_iff_wp, hc]
  refine Sem.wp_mono M Γ _ (fun fin p' s' h' => ?_) (fun _ _ _ h' => h') p s (h Γ p (hc ▸ hΓ.in) (hc ▸ hcl) hb)
  cases fin with
  | done f => exact h'
  | again c' => exact ⟨h'.1, h'.2 (Γ.goto c') p' rfl (hΓ.goto c') hb⟩
end

section
variable {prog : Program} {w : World} {A : Around} {s : Shared} {R : Result → Shared → Prop}
theorem codeC_func {body env}
    (h : wpC (model prog w) (A.deeper env) (execs body env) (fun f s' => R (.ok (.ret (match f with | .ret v => v | _ => .none))) s')
      (fun e s' => wpC (model prog w) (A.deeper env) (leaving env e) (fun _ s'' => R (.error e) s'') (fun e' s'' => R (.error e') s'') s') s) :
    codeC (model prog w) A (.func body env) R s := by
  refine codeC_of_tree rfl ?_
  show wpC _ (A.deeper env) (do point; match ← (execs body env).onRaise (leaving env) with | .ret v => ret v | _ => ret .none) _ _ s
  refine wpC_part (wpAny_point (wpC_bind (wpC_onRaise (wpC_mono h (fun f s' h' => ?_) fun _ _ h' => h'))))
  cases f <;> exact wpC_pure h'
end

theorem thread_ends0 {prog : Program} {w : World} {t : Sem Fin} {s : Shared} {R : Result → Shared → Prop} (hreg : s.asleep)
    (h : wpC (model prog w) callerA t (fun fin s' => ∃ f, fin = .done f ∧ (R (.ok f) s' ∧ leftWithCleanup s'.gens = false)) (fun e s' => R (.error e) s' ∧ leftWithCleanup s'.gens = false) s) :
    ∃ n r s' s'', runN (denote table) prog w n s ⟨t, .builtin "claim.caller" {}, default, []⟩ = .halted (outcomeOf r) s' ∧
      schedN (denote table) prog w n (.single s ⟨t, .builtin "claim.caller" {}, default, []⟩) = .halted (outcomeOf r) s' ∧ s'.forget = s''.forget ∧ R r s'' := by
  have h0 : Sem.wp (model prog w) ⟨.builtin "claim.caller" {}, none, none, [], none⟩ t
      (Sem.finPost (model prog w) ⟨.builtin "claim.caller" {}, none, none, [], none⟩ fun r s' => R r s' ∧ leftWithCleanup s'.gens = false)
      (fun e _ s' => R (.error e) s' ∧ leftWithCleanup s'.gens = false) default s := by
    refine Sem.wp_mono _ _ t (fun fin p' s' h' => ?_) (fun _ _ _ h' => h') default s (h _ default caller_in (by decide +kernel) (fun x hx => by cases hx))
    obtain ⟨f, rfl, hf⟩ := h'
    exact hf
  obtain ⟨n, r, s₁, s₂, hs, hn, hfo, hR⟩ := wp_halts_full (M := model prog w) (R := R) hreg h0
  exact ⟨n, r, s₂, s₁, hn, hs, hfo, hR⟩

theorem callFrom0 {c : ClaimW} {tree : List Value → Sem Fin} {w : World} {s : Shared} {free : Addr → Prop} {gens : Prop} {kept : Heap → Prop} (hz : s.asleep) (hgens : s.gens = #[])
    (hspec : ∀ args, c.pre args = true → WData.layableAll args = true →
      ∀ ord : List DictEntry → List DictEntry, (∀ l, (ord l).Perm l) →
      ∃ vs s₁, layAllW c.records (classAt s.heap) w.params ord args s = some (vs, s₁) ∧
        wpC (model c.prog w) callerA (tree vs) (fun fin s' => ∃ f, fin = .done f ∧ (c.Ends s args vs s₁ (.ok f) s' ∧ s'.os = s.os ∧ AllBare s'.gens ∧ kept s'.heap))
          (fun e s' => c.Ends s args vs s₁ (.error e) s' ∧ s'.os = s.os ∧ AllBare s'.gens ∧ kept s'.heap) s₁) :
    c.CallFrom (fun vs => ⟨tree vs, .builtin "claim.caller" {}, default, []⟩) w free gens kept s := by
  intro args hpre hlay ord hord
  obtain ⟨vs, s₁, hlaid, hcode⟩ := hspec args hpre hlay ord hord
  have hal := layAllW_rest _ _ _ hlaid
  obtain ⟨k, r, s', s'', hrun, hsched, hfo, hcase, hos, hkp⟩ := thread_ends0 (prog := c.prog) (w := w) (t := tree vs) (s := s₁)
    (R := fun r s' => c.Ends s args vs s₁ r s' ∧ s'.os = s.os ∧ kept s'.heap)
    (Shared.asleep_of_life hal.2.2.2 hz)
    (wpC_mono hcode (fun fin s' ⟨f, e, h1, h2, h3, h4⟩ => ⟨f, e, ⟨h1, h2, h4⟩, leftWithCleanup_false_of_bare h3⟩)
      fun e s' ⟨h1, h2, h3, h4⟩ => ⟨⟨h1, h2, h4⟩, leftWithCleanup_false_of_bare h3⟩)
  obtain ⟨eh, _, _, eo, _⟩ := Shared.forget_eq hfo
  have hcase := hcase.congr eh
  have hkp : kept s'.heap := by rw [eh]; exact hkp
  rw [← eo] at hos
  have hlife : s'.heap.life = s.heap.life := (runN_life _ _ _ hrun).trans hal.2.2.2
  refine ⟨vs, s₁, hlaid, k, _, s', hsched, ?_, (fun _ i x hx => by rw [hgens] at hx; simp at hx), hkp, by rw [hlife], Shared.rest_eq hos⟩
  rcases hcase with ⟨v, rfl, d1, d2, d3, d4, d5⟩ | ⟨e, ob, cls, rfl, d1, d2, d3, d4, d5⟩
  · exact .inl ⟨v, rfl, d1, d2, d3, fun b o y _ => d4 b o y, d5⟩
  · exact .inr ⟨e, ob, cls, rfl, d1, d2, d3, d4, fun b o y _ => d5 b o y⟩

noncomputable abbrev WalkC (q : Program) (loose : List Str) (XP : (Str → Option Value) → Heap → Prop) (YP : World → Heap → Prop) (r : RowW) (d : DefRec) (kwd : List (Str × Expr)) (run : Value → List Value → Sem Value) : Prop :=
  ∀ (w : World) (s₀ s₁ : Shared) (mg mb : Str → Option Value), Ground q loose r.records XP w s₀ mg mb s₁.heap → YP w s₁.heap → ∀ (a : Addr) (o : Obj) (pm cd doc dV kV : Value), s₁.heap.get? a = some o →
    o.data = .func { docDef d.name d.params d.body d.scope pm cd doc with defaults := dV, kwdefaults := kV } → s₁.heap.CodeRec cd d.name → Dflts mg s₁.heap d.params kwd dV kV → mg d.name = some (.ref a) → s₁.gens = #[] →
    ∀ (args : List WData) (vals : List Value) (as : List Addr), r.claim.pre args = true → WData.layableAll args = true → ReadsAllW r.records (classAt s₀.heap) s₁.heap vals args as → WellAll w.params s₁.heap vals args → (∀ a ∈ as, (a == sysModules) = false) →
      wpC (model r.prog w) callerA (run (.ref a) vals) (fun v s' => GoodWG r.claim (classAt s₀.heap) (ExcName.means s₀.heap) args s₁ (.ok (.ret v)) s')
        (fun e s' => GoodWG r.claim (classAt s₀.heap) (ExcName.means s₀.heap) args s₁ (.error e) s') s₁

theorem PySem.W.holds_open {r : OpenRow} {q : Program} {loose : List Str} {Xt : Shared → Bool} {XP : (Str → Option Value) → Heap → Prop} {α : Type} {Yf : Shared → α} {Ya : World → α} {YP : World → Heap → Prop} {d : DefRec} {kwd : List (Str × Expr)} {N : Nat}
    (left : LeftO r.prog q loose Xt Yf Ya N) (hY : ∀ w s, Yf s = Ya w → YP w s.heap) (hYk : ∀ w h h', YP w h → (∀ b o, h.get? b = some o → h'.get? b = some o) → YP w h')
    (hX : ∀ s, Xt s = true → XP (s.heap.nsMap mainGlobals) s.heap) (hXk : ∀ mg h h', XP mg h → (∀ b o, h.get? b = some o → h'.get? b = some o) → XP mg h')
    (hdef : defOf q r.name = some (d, kwd)) (hp : r.prog.theDef r.name = some (d.params, d.body, d.scope)) (hk : kwWritten? d.params.kwonlyargs d.params.kw_defaults = some kwd) (hRf : ∀ s, Xt s = true → RecFacts r.records s.heap) (hwr : (!r.writes || r.records.isEmpty) = true)
    (k1 : r.wellSaid = true) (ok : (chainsOk q && opensWell r.prog && (frees r.toRowW && r.within.isEmpty)) = true) (hb : r.prog.bare) (hw : r.toRowW.promised)
    (call : WalkC q loose XP YP r.toRowW d kwd fun f vs => PySem.call f vs) : r.Holds := by
  obtain ⟨ok, k5⟩ := Bool.and_eq_true_iff.mp ok
  obtain ⟨hch, o1⟩ := Bool.and_eq_true_iff.mp ok
  obtain ⟨k5, k6⟩ := Bool.and_eq_true_iff.mp k5
  obtain ⟨hsame, hu, ha, hap, hm⟩ := frees_parts k5
  refine ⟨k1, hw, ⟨hb, o1, by show r.makers.map _ = []; rw [hm]; rfl⟩, hw.witness, fun w => ⟨(left.behind hX hch w).1, fun s' hs' => ?_⟩⟩
  obtain ⟨s₀, hf, hg0, s, hT, hz, hgens, hg, G00, y⟩ := (left.behind (XP := fun mg h => XP mg h ∧ RecFacts r.records h) (fun s hs => ⟨hX s hs, hRf s hs⟩) hch w).2 s' hs'
  have G0 : Ground q loose [] XP w s (s.heap.nsMap mainGlobals) (s.heap.nsMap builtinsNs) s.heap := ⟨G00.T, G00.B, G00.D, G00.TE, G00.TD, G00.W, G00.X.1, G00.cls, G00.has, G00.apart, G00.once, G00.K⟩
  have RF := G00.X.2
  have hT' := hT
  refine ⟨s₀, hf, hg0, s, hT, fun n hn => ?_, RF.1, RF.2.1, ?_⟩
  · obtain rfl : n = r.name := by split at hn <;> simp_all
    exact pinned_of_view hg G0 hdef hp hk
  have hgens : s.gens = #[] := Array.eq_empty_of_size_eq_zero (beq_iff_eq.mp hgens)
  have G : Ground q loose r.records XP w s _ _ s.heap := RF.ground G0
  refine callFrom0 (c := r.toRowW.claim) hz hgens fun args hpre hlay ord hord => ?_
  obtain ⟨⟨vs, s₁⟩, hlaid⟩ := Option.isSome_iff_exists.mp (layAllW_isSome (P := w.params) (ord := ord) G.has args r.args s (pre_splitW hpre).1)
  have keeps := layAllW_keeps _ _ _ hlaid
  have hal := layAllW_rest _ _ _ hlaid
  obtain ⟨as, hrd, hin, hold⟩ := reads_layAllW hord _ _ _ hlaid hlay s₁.heap (fun _ _ e => e)
  have L : Laid r.records w s s₁ args vs as := ⟨⟨ord, hord, hlaid⟩, hrd, hin, hold, keeps, hal.1.trans hgens, hal.2.2.1⟩
  have G₁ := G.keeps hXk keeps
  obtain ⟨a, o, pm, cd, doc, dV, kV, h1, h2, h3, h4, h5⟩ := G₁.fn hdef
  have h := call w s s₁ _ _ G₁ (hYk _ _ _ (hY w s y) keeps) a o pm cd doc dV kV h2 h3 h4 h5 (defOf_name hdef ▸ h1) L.gens args vs as hpre hlay L.reads L.well (L.low G.low)
  have hi := ident_freeW hu ha hap
  have hwi : r.toRowW.claim.within = [] := List.isEmpty_iff.mp k6
  refine ⟨vs, s₁, hlaid, ?_⟩
  show wpC _ callerA (do match ← nsGet mainNs r.name with
      | some f => do ret (← PySem.call f vs)
      | none => unsupported "claim.caller:no-such-global") _ _ s₁
  refine wpC_part (wpAny_nsGet G₁.T.g ?_)
  rw [h1]
  exact wpC_bind (wpC_mono h (fun v s' g => wpC_pure ⟨_, rfl, have z := g.laid (c := r.toRowW.claim) hsame hwi hi L; ⟨z.1, z.2.1, z.2.2, fun q => ⟨namesKept_of hT' hg _ keeps g.2.1.old, noTable hwr q⟩⟩⟩)
    fun e s' g => have z := g.laid (c := r.toRowW.claim) hsame hwi hi L; ⟨z.1, z.2.1, z.2.2, fun q => ⟨namesKept_of hT' hg _ keeps g.2.1.old, noTable hwr q⟩⟩)
end Mine

end
section
open PySem PySem.W PyProof.Rows PySem.Calls
set_option maxRecDepth 100000
namespace Mine
section
variable {M : Model} {A : Around} {E : Value → Shared → Prop} {s : Shared} {env : Env}
theorem wpC_execs_nil {Q : Flow → Shared → Prop} (h : Q .next s) : wpC M A (execs [] env) Q E s := fun _ _ _ _ _ => h
theorem wpC_execs_cons {st rest} {Q : Flow → Shared → Prop}
    (h : wpC M A (exec st env) (fun f s' => match f with | .next => wpC M A (execs rest env) Q E s' | f => Q f s') E s) :
    wpC M A (execs (st :: rest) env) Q E s := by
  rw [execs_cons]
  refine wpC_bind (wpC_mono h (fun f s' h' => ?_) fun _ _ x => x)
  cases f <;> first | exact h' | exact wpC_pure h'
theorem wpC_Assign_Name {x pos' value pos} {Q : Flow → Shared → Prop}
    (h : wpC M A (eval value env) (fun v s₁ => wpAny M A (storeName env x v) (fun _ => Q .next) E s₁) E s)
    (hs : swapsWith value (some (.Name x pos')) pos.line env = pure false := by rfl) :
    wpC M A (exec (.Assign [.Name x pos'] value pos) env) Q E s := by
  rw [exec_Assign_Name env x pos' value pos hs]
  refine wpC_part (wpAny_standAt (wpC_bind (wpC_mono h (fun v s₁ h₁ => ?_) fun _ _ x => x)))
  exact wpC_part (wpAny_standAt (wpC_part (wpAny_mono (wpAny_bindName h₁) (fun _ _ q => wpC_pure q) fun _ _ x => x)))
theorem wpAny_operate' {vs : List Value} {m : Sem Value} {Q : Value → Shared → Prop} (h : wpAny M A m Q E s) : wpAny M A (operate vs m) Q E s :=
  fun Γ p hI => by rw [Sem.wp_operate]; exact h Γ p hI
theorem wpC_BinOp {l op r pos} {Q : Value → Shared → Prop}
    (h : wpC M A (eval l env) (fun a s₁ => wpAny M A (eval r env) (fun b s₂ => wpAny M A (binaryOp op a b) Q E s₂) E s₁) E s) :
    wpC M A (eval (.BinOp l op r pos) env) Q E s := by
  rw [eval_BinOp]
  refine wpC_bind (wpC_mono h (fun a s₁ h₁ => ?_) fun _ _ x => x)
  exact wpC_any (wpAny_bind (wpAny_holding (wpAny_mono h₁ (fun b s₂ h₂ => wpAny_bind (wpAny_standAt (wpAny_operate' h₂))) fun _ _ x => x)))
theorem wpC_isTrue_Compare1 {l op r pos whole} {Q : Bool → Shared → Prop}
    (h : wpC M A (eval l env) (fun a s₁ => wpAny M A (eval r env) (fun b s₂ => wpAny M A (compareOp op a b)
      (fun c s₃ => wpAny M A (truthy c) Q E s₃) E s₂) E s₁) E s)
    (hm : behindInMarks op r = false := by with_unfolding_all rfl) : wpC M A (isTrue (.Compare l [op] [r] pos) env whole) Q E s := by
  rw [isTrue_Compare1, markedBehindIn_of_false hm]
  refine wpC_bind (wpC_mono h (fun a s₁ h₁ => ?_) fun _ _ x => x)
  exact wpC_any (wpAny_bind (wpAny_holding (wpAny_mono h₁ (fun b s₂ h₂ => wpAny_bind (wpAny_standAt (wpAny_bind (wpAny_operate' (wpAny_mono h₂ (fun c s₃ h₃ => wpAny_holding h₃) fun _ _ x => x))))) fun _ _ x => x)))
theorem wpC_If {test body orelse pos} {Q : Flow → Shared → Prop}
    (h : wpC M A (isTrue test env (eval test env))
      (fun b s₂ => if b then wpC M A (execs body env) Q E s₂ else wpC M A (execs orelse env) Q E s₂) E s) :
    wpC M A (exec (.If test body orelse pos) env) Q E s := by
  rw [exec_If]
  refine wpC_part (wpAny_standAt (wpC_bind (wpC_mono h (fun b s₂ h₂ => ?_) fun _ _ x => x)))
  cases b <;> exact h₂
/-- a or b or c, the last one on the path -/
theorem wpC_isTrue_Or {x : Expr} {rest : List Expr} {pos whole} {Q : Bool → Shared → Prop}
    (h : wpAny M A (isTrue x env (eval x env)) (fun b s₁ => if b then Q true s₁ else wpC M A (allTrue .Or rest env) Q E s₁) E s) :
    wpC M A (isTrue (.BoolOp .Or (x :: rest) pos) env whole) Q E s := by
  show wpC M A (do
    match BoolOp.Or, ← isTrue x env (eval x env) with
    | .And, false => pure false
    | .Or, true => pure true
    | _, _ => allTrue .Or rest env) Q E s
  refine wpC_part (wpAny_mono h (fun b s₁ h₁ => ?_) fun _ _ x => x)
  cases b
  · exact h₁
  · exact wpC_pure h₁
theorem wpC_allTrue_Or {x : Expr} {rest : List Expr} {Q : Bool → Shared → Prop}
    (h : wpC M A (isTrue x env (eval x env)) (fun b s₁ => if b then Q true s₁ else wpC M A (allTrue .Or rest env) Q E s₁) E s) :
    wpC M A (allTrue .Or (x :: rest) env) Q E s := by
  show wpC M A (do
    match BoolOp.Or, ← isTrue x env (eval x env) with
    | .And, false => pure false
    | .Or, true => pure true
    | _, _ => allTrue .Or rest env) Q E s
  refine wpC_bind (wpC_mono h (fun b s₁ h₁ => ?_) fun _ _ x => x)
  cases b
  · exact h₁
  · exact wpC_pure h₁
theorem wpC_allTrue_nil {Q : Bool → Shared → Prop} (h : Q false s) : wpC M A (allTrue .Or [] env) Q E s := wpC_pure h
theorem wpC_spliced_cons {x : Sem Value} {rest : List (Bool × Sem Value)} {Q : List Value → Shared → Prop}
    (h : wpC M A x (fun v s₁ => wpC M A (spliced rest) (fun vs s₂ => Q (v :: vs) s₂) E s₁) E s) : wpC M A (spliced ((false, x) :: rest)) Q E s := by
  rw [spliced]
  refine wpC_bind (wpC_mono h (fun v s₁ h₁ => ?_) fun _ _ x => x)
  simp only [Bool.false_eq_true, if_false]
  exact wpC_bind (wpC_pure (wpC_bind (wpC_holding (wpC_mono h₁ (fun vs s₂ h₂ => wpC_pure h₂) fun _ _ x => x))))
theorem wpC_evalArgs {f : Value} {x : Sem Value} {rest : List (Bool × Sem Value)} {Q : Args → Shared → Prop}
    (h : wpC M A (spliced ((false, x) :: rest)) (fun vs s' => Q ⟨vs, []⟩ s') E s) : wpC M A (evalArgs f true ((false, x) :: rest) []) Q E s := by
  unfold evalArgs
  show wpC M A (spliced ((false, x) :: rest) >>= _) Q E s
  refine wpC_bind (wpC_mono h (fun vs s' h' => ?_) fun _ _ x => x)
  exact wpC_holding (wpC_bind (wpC_pure (wpC_bind (wpC_pure (wpC_pure h')))))
theorem wpC_keep {α : Type} {vs : List Value} {m : Sem α} {Q : α → Shared → Prop} (h : wpC M A m Q E s) : wpC M A (m.keep vs) Q E s :=
  fun Γ p hI hc hb => by rw [Sem.wp_keep]; exact h Γ p hI hc hb
theorem wpC_callWith_type {pos : Pos} {T : String} {args : List (Bool × Sem Value)} {Q : Value → Shared → Prop} (hplain : args.any (·.1) = false)
    (h : wpC M A (evalArgs (.type T) true args []) (fun a s₁ => wpC M A (call (.type T) ([] ++ a.pos) a.kw) Q E s₁) E s) :
    wpC M A (callWith pos (.type T) [] args []) Q E s := by
  unfold callWith
  refine wpC_bind (wpC_holding (wpC_mono h (fun a s₁ h₁ => wpC_part (wpAny_standAt ?_)) fun _ _ x => x))
  simp only [hplain, List.any_nil, Bool.or_false]
  refine wpC_bind (wpC_pure ?_)
  exact wpC_bind (wpC_mono h₁ (fun r s₂ hr => wpC_any (wpAny_bind (wpAny_holding (wpAny_point (wpAny_pure hr))))) fun _ _ x => x)
theorem wpC_callMarked {mk : Value} {f : Value} {pos : List Value} {kw : List (Str × Value)} {Q : Value → Shared → Prop} (h : wpC M A (call f pos kw) Q E s) : wpC M A (callMarked mk f pos kw) Q E s := by
  unfold callMarked; exact wpC_keep h
theorem wpC_callWith_fn {pos : Pos} {a : Addr} {args : List (Bool × Sem Value)} {Q : Value → Shared → Prop}
    (h : wpC M A (evalArgs (.ref a) true args []) (fun x s₁ => (∃ o fd, s₁.heap.get? a = some o ∧ o.data = .func fd) ∧ wpC M A (call (.ref a) ([] ++ x.pos) x.kw) Q E s₁) E s) :
    wpC M A (callWith pos (.ref a) [] args []) Q E s := by
  unfold callWith
  refine wpC_bind (wpC_holding (wpC_mono h (fun x s₁ h₁ => wpC_part (wpAny_standAt ?_)) fun _ _ x => x))
  obtain ⟨⟨o, fd, ho, hd⟩, h₁⟩ := h₁
  have tail : ∀ {t : Sem Value}, wpC M A t Q E s₁ → wpC M A (t >>= fun r => holding [r] point >>= fun _ => pure r) Q E s₁ :=
    fun ht => wpC_bind (wpC_mono ht (fun r s₂ hr => wpC_any (wpAny_bind (wpAny_holding (wpAny_point (wpAny_pure hr))))) fun _ _ x => x)
  cases hs : args.any (·.1) <;> simp only [List.any_nil, Bool.or_false] <;>
    refine wpC_part (m := keeperOf (.ref a)) ?_ <;> unfold keeperOf <;>
    refine wpAny_bind (wpAny_load ho ?_) <;> rw [hd] <;> refine wpAny_pure ?_
  · dsimp only
    split
    · exact tail h₁
    · exact tail (wpC_callMarked h₁)
  · exact tail (wpC_callMarked h₁)
theorem wpC_Call_Name {id : Str} {p pos : Pos} {args : List Expr} {Q : Value → Shared → Prop}
    (h : wpAny M A (eval (.Name id p) env) (fun f s₁ => wpC M A (callWith pos f [] (backTo pos (starEach args env)) []) Q E s₁) E s) :
    wpC M A (eval (.Call (.Name id p) args [] pos) env) Q E s := by
  show wpC M A (do callWith pos (← eval (.Name id p) env) [] (backTo pos (starEach args env)) (backToKw pos (keywordEach [] env))) Q E s
  exact wpC_part h
theorem wpC_runOwn {c : Code} {Q : Flow → Shared → Prop} (hc : codeC M A c (fun r s' => match r with | .ok f => Q f s' | .error _ => False) s) : wpC M A (runOwn c env none) Q E s := by
  unfold runOwn
  refine wpC_onRaise (wpC_run (codeC_mono (A := A.mark none) (by exact hc) fun r s' h => ?_))
  cases r with
  | ok f => exact h
  | error e => exact h.elim
theorem wpC_For {target iter body orelse pos} {Q : Flow → Shared → Prop}
    (h : wpAny M A (eval iter env) (fun x s₁ => wpAny M A (pyIter x) (fun it s₂ =>
      codeC M A (.forLoop target it body orelse env) (fun r s' => match r with | .ok f => Q f s' | .error _ => False) s₂) E s₁) E s)
    (hs : ∀ x, foldedSetIterable iter env x = pure x := by intro _; rfl) :
    wpC M A (exec (.For target iter body orelse pos) env) Q E s := by
  rw [exec_For]
  exact wpC_part (wpAny_standAt (wpC_part (wpAny_mono h (fun x s₁ h₁ => wpC_part (wpAny_of_eq (hs x) (wpC_part (wpAny_standAt (wpC_part (wpAny_holding
    (wpAny_mono h₁ (fun it s₂ h₂ => wpC_runOwn h₂) fun _ _ h' => h'))))))) fun _ _ h' => h')))
end
section
variable {prog : Program} {w : World} {A : Around} {s : Shared} {R : Result → Shared → Prop}
theorem codeC_block {body env} (h : wpC (model prog w) A (execs body env) (fun f s' => R (.ok f) s') (fun _ _ => False) s) : codeC (model prog w) A (.block body env) R s := by
  refine codeC_of_tree rfl ?_
  rw [Around.under_of_weight rfl]
  show wpC _ A (do return Fin.done (← (execs body env).onRaise _)) _ _ s
  exact wpC_bind (wpC_onRaise (wpC_mono h (fun f s' h' => wpC_pure h') fun _ _ x => x.elim))
theorem codeC_forLoop {target it body env} (I : Nat → Shared → Prop)
    (turn : ∀ n s, I n s → wpAny (model prog w) A (pyNext it) (fun r s₁ => match r with
      | none => R (.ok .next) s₁
      | some v => wpAny (model prog w) A (assign target env v) (fun _ s₂ => wpC (model prog w) A (execs body env) (fun f s₃ => match f with
          | .next | .cont => ∃ m, m < n ∧ I m s₃
          | .brk => R (.ok .next) s₃
          | .ret v => R (.ok (.ret v)) s₃) (fun _ _ => False) s₂) (fun _ _ => False) s₁) (fun _ _ => False) s)
    (ht : ∀ v, letOwnedTupleGo target it v = pure ()) : ∀ (n : Nat) (s : Shared), I n s → codeC (model prog w) A (.forLoop target it body [] env) R s := by
  intro n
  induction n using Nat.strongRecOn with
  | ind n ih =>
    intro s hI
    refine codeC_of_tree rfl ?_
    rw [Around.under_of_weight rfl]
    show wpC _ A ((forTurn target it body [] env).onRaise (fun x => do noteFrame x env; theTreesLotGoes x)) _ _ s
    refine wpC_onRaise (wpC_mono (E := fun _ _ => False) (Q := fun fin s' => match fin with | .done f => R (.ok f) s' | .again c' => c'.quiet = true ∧ codeC (model prog w) A c' R s') ?_ (fun _ _ x => x) fun _ _ x => x.elim)
    simp only [forTurn]
    refine wpC_part (wpAny_standAt (wpC_part (wpAny_onRaise (wpAny_mono (turn n s hI) (fun r s₁ h₁ => ?_) fun _ _ x => x.elim))))
    cases r with
    | none => exact wpC_pure ⟨rfl, codeC_block (wpC_execs_nil h₁)⟩
    | some v =>
      refine wpC_part (wpAny_of_eq (ht v) ?_)
      refine wpC_part (wpAny_mono h₁ (fun _ s₂ h₂ => wpC_bind (wpC_mono h₂ (fun f s₃ h₃ => ?_) fun _ _ x => x)) fun _ _ x => x)
      cases f with
      | next => obtain ⟨m, hm, hI'⟩ := h₃; exact wpC_pure ⟨rfl, ih m hm s₃ hI'⟩
      | cont => obtain ⟨m, hm, hI'⟩ := h₃; exact wpC_pure ⟨rfl, ih m hm s₃ hI'⟩
      | brk => exact wpC_pure h₃
      | ret v => exact wpC_pure h₃
theorem codeC_call_function {a : Addr} {args : Args} {o : Obj} {fd : FuncData} {body : List Stmt} (hroom : A.depth < recursionLimit)
    (ho : s.heap.get? a = some o)
    (hd' : o.data = .func fd) (hco : fd.scope.isCoroutine = false) (hgen : fd.scope.isGenerator = false) (hbody : fd.body = .stmts body) (hcd : s.heap.CodeRec fd.code fd.qualname)
    (h : wpAny (model prog w) A.in1 (bindArgs fd args) (fun binds s₁ =>
      wpAny (model prog w) A.in1 (newFunctionEnv fd.scope fd.globals fd.closure binds (fd.qualname ++ ".<locals>.") (some a) fd.code none fd.builtins)
        (fun env s₂ => s₂.heap.NoLimit ∧ codeC (model prog w) A (.func body env) R s₂) (fun e s' => R (.error e) s') s₁) (fun e s' => R (.error e) s') s) :
    codeC (model prog w) A (.call (.ref a) args) R s := by
  refine codeC_of_tree rfl ?_
  show wpC _ A.in1 (callAny (.ref a) args) _ _ s
  simp only [callAny]
  refine wpC_part (wpAny_load ho ?_)
  obtain ⟨c, oc, vs, tq, hc, hoc, hdc, hq⟩ := hcd
  simp only [hd', callFunction, hco, hgen, hbody, hc]
  rw [hc] at h
  refine wpC_part (m := field (.ref c) 1) (wpAny_field hoc hdc hq (wpC_bind (wpC_pure ?_)))
  exact wpC_part (wpAny_mono h (fun binds s₁ h₁ => wpC_part (wpAny_mono h₁ (fun env s₂ h₂ => wpC_part (wpAny_enterFrame h₂.1 hroom
    (wpC_pure (And.intro rfl h₂.2)))) fun _ _ h' => h')) fun _ _ h' => h')
end
end Mine

end
section
open PySem PySem.W PyProof.Rows PySem.Calls
set_option maxRecDepth 100000
namespace Mine
noncomputable abbrev rangeIt (x left c : Int) : Obj := { cls := .type "range_iterator", data := .fields #[rawInt x, rawInt left, rawInt c] }
section
variable {prog : Program} {w : World} {A : Around} {s : Shared} {R : Result → Shared → Prop}
theorem codeC_call_def {a : Addr} {o : Obj} {fd : FuncData} {body : List Stmt} {args : Args} {binds : List (Str × Value)}
    (hroom : A.depth < recursionLimit) (ho : s.heap.get? a = some o) (hdata : o.data = .func fd) (hlim : s.heap.NoLimit) (hcd : s.heap.CodeRec fd.code fd.qualname)
    (hbody : fd.body = .stmts body) (hbind : BindsTo s fd args binds)
    (hcell : ∀ x ∈ fd.scope.names, x.2 ≠ .cell) (hloc : ∀ x ∈ binds, fd.scope.names.lookup x.1 = some .local)
    (h : ∀ h₀, h₀.Ns s.heap.objs.size (fun x => binds.reverse.lookup x) → (∀ b o, s.heap.get? b = some o → h₀.get? b = some o) →
      wpC (model prog w) (A.deeper (callEnv fd s.heap.objs.size a)) (execs body (callEnv fd s.heap.objs.size a)) (fun f s' => R (.ok (.ret (match f with | .ret v => v | _ => .none))) s')
        (fun _ _ => False) { s with heap := h₀, toks := s.toks + binds.length })
    (hco : fd.scope.isCoroutine = false) (hgen : fd.scope.isGenerator = false) (hk : fd.scope.kind = .function) :
    codeC (model prog w) A (.call (.ref a) args) R s := by
  refine codeC_call_function hroom ho hdata hco hgen hbody hcd (hbind _ _ _ _ ?_)
  refine wpAny_newFunctionEnv hcell hloc (fun h₀ hns₀ hsb₀ => ⟨hlim.fresh _ hsb₀, codeC_func (wpC_mono (h h₀ hns₀ fun b o e => ?_) (fun _ _ x => x) fun _ _ x => x.elim)⟩) hk
  exact hsb₀.extBut b o (Nat.ne_of_lt (Heap.lt_size e)) (Heap.get?_push_of_some _ e)
theorem codeC_def {A₀ : Around} {base h₀ : Heap} {L : Addr} {m : Str → Option Value} {news : List (Addr × Obj)} {K : Frag} {p : Program} {loose : List Str} {mean : ExcName → Option Value} {mg mb : Str → Option Value}
    {env : Env} {outer : List Env} {name qual : Str} {params : Arguments} {body : List Stmt} {scope : Scope} {dV kV doc pm cdv ct oc : Value} {an od : Option Addr} {osl : Array (Option Value)} {f : Addr} {args : Args} {binds : List (Str × Value)}
    (B : Below A₀ base outer h₀) (F : Fr h₀ L s.heap m) (X₀ : K.In h₀) (N : News h₀ L s.heap news) (T : Top p loose mean mg mb h₀) (hA : A.frames = some (env :: outer)) (hf : env.frame = some L) (hke : env.scope.kind = .function)
    (ho : K.lookup f = some ⟨oc, od, .func (fnOf name qual params body scope dV kV doc pm an cdv ct), osl⟩) (hcd : codeIn K cdv qual = true) (hroom : A.depth < recursionLimit)
    (hbind : BindsTo s (fnOf name qual params body scope dV kV doc pm an cdv ct) args binds) (hloc : ∀ y ∈ binds, scope.names.lookup y.1 = some .local)
    (h : ∀ g L' h₁, Fr h₀ L g m → Fr g L' h₁ (fun y => binds.reverse.lookup y) → News g L' h₁ news → Below A base (env :: outer) g → K.In g → Top p loose mean mg mb g →
      wpC (model prog w) (A.deeper (envOf qual scope L' f cdv)) (execs body (envOf qual scope L' f cdv))
        (fun fl s' => LeaveK h₀ L m g R (match fl with | .ret v => v | _ => .none) s') (fun _ _ => False)
        { s with heap := h₁, toks := s.toks + binds.length })
    (hco : scope.isCoroutine = false) (hgen : scope.isGenerator = false) (hk : scope.kind = .function)
    (hcell : ∀ x ∈ scope.names, x.2 ≠ .cell) : codeC (model prog w) A (.call (.ref f) args) R s := by
  obtain ⟨FG, BG, st, lv⟩ := groundX (R := R) B F N hA hf hke
  refine codeC_call_def (fd := fnOf name qual params body scope dV kV doc pm an cdv ct) (body := body) (binds := binds) hroom ((X₀.keeps F.keep) _ _ ho) rfl (T.nolimit.keeps F.keep) (codeRec_of (X₀.keeps F.keep) hcd) rfl hbind hcell hloc (fun h₁ hns hk₁ => ?_) hco hgen hk
  exact wpC_mono (h _ s.heap.objs.size h₁ FG ⟨hns, fun b o e => hk₁ b o (of_hideAll _ e), Nat.le_of_eq (hideAll_size _ _)⟩
    (fun p hp => ⟨hk₁ _ _ (N p hp).1, Nat.ne_of_lt (Heap.lt_size (N p hp).1), hideAll_none _ (List.mem_map_of_mem hp)⟩) BG (X₀.keeps st) (T.keeps st)) (fun fl s' hl => lv _ _ hl) fun _ _ y => y
/-- what holds ahead of a turn of a loop over a range -/
inductive FRInv (h₀ : Heap) (L I : Addr) (a c : Int) (n : Nat) (s : Shared) (J : Nat → (Str → Option Value) → List (Addr × Obj) → Prop) (k : Nat) (s' : Shared) : Prop
  | mk (h' : Heap) (tk : Nat) (m' : Str → Option Value) (news' : List (Addr × Obj)) (i : Nat) : s' = { s with heap := h', toks := tk } → h'.get? I = some (rangeIt (a + (i : Nat) * c) ((n : Int) - (i : Nat)) c) → Fr h₀ L h' m' → News h₀ L h' news' →
    (∀ p ∈ news', p.1 ≠ I) → J i m' news' → i ≤ n → k = n + 1 - i → FRInv h₀ L I a c n s J k s'
/-- a turn of a loop over a range -/
theorem codeC_forRange {h₀ : Heap} {env : Env} {x : Str} {px : Pos} {body : List Stmt} {I : Addr} {a c : Int} {n : Nat} {m : Str → Option Value} {news : List (Addr × Obj)} (hh : A.handled = none) (hx : env.kindOf x = some .local)
    (hp : (env.scope.kind == .class || (env.scope.kind == .module && env.locals != env.globals)) = false) (hL : env.locals ≠ I) (hI : h₀.get? I = none)
    (hit : s.heap.get? I = some (rangeIt a n c)) (F : Fr h₀ env.locals s.heap m) (N : News h₀ env.locals s.heap news) (hnw : ∀ p ∈ news, p.1 ≠ I)
    (J : Nat → (Str → Option Value) → List (Addr × Obj) → Prop) (h0 : J 0 m news)
    (turn : ∀ i t m₁ news₁ h tk (Qb : Flow → Shared → Prop), i < n → J i m₁ news₁ → (∀ p ∈ news₁, p.1 ≠ I) → Fr h₀ env.locals h (fun y => if y = x then some (.int (a + i * c) t) else m₁ y) →
      News h₀ env.locals h ((I, rangeIt (a + ((i + 1 : Nat) : Int) * c) (n - ((i + 1 : Nat) : Int)) c) :: news₁) →
      (∀ h' tk' m₂ news₂, Fr h₀ env.locals h' m₂ → News h₀ env.locals h' ((I, rangeIt (a + ((i + 1 : Nat) : Int) * c) (n - ((i + 1 : Nat) : Int)) c) :: news₂) → (∀ p ∈ news₂, p.1 ≠ I) → J (i + 1) m₂ news₂ → Qb .next { s with heap := h', toks := tk' }) →
      wpC (model prog w) A (execs body env) Qb (fun _ _ => False) { s with heap := h, toks := tk })
    (done : ∀ h' tk m' news', Fr h₀ env.locals h' m' → News h₀ env.locals h' news' → (∀ p ∈ news', p.1 ≠ I) → J n m' news' → R (.ok .next) { s with heap := h', toks := tk }) :
    codeC (model prog w) A (.forLoop (.Name x px) (.ref I) body [] env) R s := by
  have W := Walks.range (prog := prog) (w := w) (A := A) hh I a c n
  have old : ∀ b o, h₀.get? b = some o → b ∉ [I] := fun b o e hb => by rw [List.mem_singleton.mp hb, hI] at e; cases e
  have hLw : env.locals ∉ [I] := fun q => hL (List.mem_singleton.mp q)
  refine codeC_forLoop
    (FRInv h₀ env.locals I a c n s J) ?_ (by intro _; rfl) (n + 1) s
    ⟨s.heap, s.toks, m, news, 0, rfl, by simpa using hit, F, N, hnw, h0, Nat.zero_le _, rfl⟩
  rintro k s' ⟨h', tk, m', news', i, rfl, hst', F', N', hnw', hJ, hi, rfl⟩
  have next : ∀ h₁ : Heap, (∀ b o, b ∉ [I] → h'.get? b = some o → h₁.get? b = some o) → Fr h₀ env.locals h₁ m' ∧ News h₀ env.locals h₁ news' := fun h₁ hk₁ =>
    ⟨⟨F'.ns.at' fun o e => hk₁ _ o hLw e, fun b o e => hk₁ b o (old b o e) (F'.keep b o e), F'.above⟩, fun p hp => ⟨hk₁ _ _ (fun q => hnw' p hp (List.mem_singleton.mp q)) (N' p hp).1, (N' p hp).2⟩⟩
  by_cases hlt : i < n
  · refine W.item i _ _ _ hlt hst' fun v h₁ tk₁ hP hst₁ hk₁ => ?_
    obtain ⟨F₁, N₁⟩ := next h₁ hk₁
    obtain ⟨t, rfl⟩ := hP
    refine wpAny_assign_Name (wpAny_storeName_local hx F₁.ns (fun h₂ hn₂ hs₂ => ?_) hp)
    have F₂ := F₁.set hn₂ hs₂
    have hst₂ : h₂.get? I = some (rangeIt (a + ((i + 1 : Nat) : Int) * c) ((n : Int) - ((i + 1 : Nat) : Int)) c) := (hs₂.2 I (Ne.symm hL)).trans hst₁
    refine turn i t m' news' h₂ _ _ hlt hJ hnw' F₂ (fun p hp => ?_) fun h₃' tk₃ m₂ news₂ F₃ N₃ ha₃ hJ₃ => ⟨n + 1 - (i + 1), by omega, h₃', tk₃, m₂, news₂, i + 1, rfl, (N₃ _ (.head _)).1, F₃, fun p hp => N₃ p (.tail _ hp), ha₃, hJ₃, hlt, rfl⟩
    rcases List.mem_cons.mp hp with rfl | hp
    · exact ⟨hst₂, Ne.symm hL, hI⟩
    · exact N₁.set hs₂ p hp
  · have hin : i = n := by omega
    subst hin
    refine W.done _ _ _ hst' fun h₁ tk₁ hk₁ => ?_
    obtain ⟨F₁, N₁⟩ := next h₁ hk₁
    exact done h₁ tk₁ m' news' F₁ N₁ hnw' hJ
end
end Mine

end
section
open PySem PySem.W PyProof.Rows PySem.Calls
set_option maxRecDepth 100000
namespace Mine
section
variable {M : Model} {A : Around} {E : Value → Shared → Prop} {s : Shared} {env : Env}
theorem wpC_args {pos : Pos} {e : Expr} {rest : List Expr} {Q : List Value → Shared → Prop}
    (h : wpC M A (eval e env) (fun v s₁ => wpAny M A (spliced (backTo pos (starEach rest env))) (fun vs s₂ => Q (v :: vs) s₂) E s₁) E s)
    (he : starEach (e :: rest) env = (false, eval e env) :: starEach rest env) : wpC M A (spliced (backTo pos (starEach (e :: rest) env))) Q E s := by
  rw [he]
  show wpC M A (spliced ((false, eval e env) :: backTo pos (starEach rest env))) Q E s
  exact wpC_spliced_cons (wpC_mono h (fun _ _ x => wpC_any x) fun _ _ x => x)
theorem wpC_callWith_type1 {pos : Pos} {T : String} {e : Expr} {rest : List Expr} {Q : Value → Shared → Prop}
    (h : wpC M A (spliced (backTo pos (starEach (e :: rest) env))) (fun vs s₁ => wpC M A (call (.type T) vs) Q E s₁) E s)
    (he : starEach (e :: rest) env = (false, eval e env) :: starEach rest env := by rfl)
    (hplain : (backTo pos (starEach rest env)).any (·.1) = false := by rfl) :
    wpC M A (callWith pos (.type T) [] (backTo pos (starEach (e :: rest) env)) []) Q E s := by
  rw [he] at h ⊢
  exact wpC_callWith_type (by show (false || (backTo pos (starEach rest env)).any (·.1)) = false; rw [hplain]; rfl) (wpC_evalArgs h)
theorem wpC_callWith_fn1 {pos : Pos} {a : Addr} {e : Expr} {rest : List Expr} {Q : Value → Shared → Prop}
    (h : wpC M A (spliced (backTo pos (starEach (e :: rest) env))) (fun vs s₁ => (∃ o fd, s₁.heap.get? a = some o ∧ o.data = .func fd) ∧ wpC M A (call (.ref a) vs) Q E s₁) E s)
    (he : starEach (e :: rest) env = (false, eval e env) :: starEach rest env := by rfl) :
    wpC M A (callWith pos (.ref a) [] (backTo pos (starEach (e :: rest) env)) []) Q E s := by
  rw [he] at h ⊢
  exact wpC_callWith_fn (wpC_evalArgs h)
end
end Mine

end
section
open PySem PySem.W PyProof.Rows PySem.Calls PySem.Spec
set_option maxRecDepth 100000
namespace Mine
namespace MapIt
theorem owner_map : Manifest.owners.lookup (String.ofList ['p', 'a', 'm'].reverse) = some Manifest.sig_map := by kernel_rfl
theorem slot_map_iter : Slot "map" "__iter__" "map.__iter__" :=
  .of (owner := "map") (n := "__iter__") (by rw [typeLookup_type, builtinLookup_eq_fast]; kernel_rfl) (by decide +kernel) (by decide +kernel) (by decide +kernel)
    (by first | exact .inl (by decide +kernel) | exact .inr (by decide +kernel)) (by rw [isSubtype_type]; kernel_rfl)
theorem slot_map_next : Slot "map" "__next__" "map.__next__" :=
  .of (owner := "map") (n := "__next__") (by rw [typeLookup_type, builtinLookup_eq_fast]; kernel_rfl) (by decide +kernel) (by decide +kernel) (by decide +kernel)
    (by first | exact .inl (by decide +kernel) | exact .inr (by decide +kernel)) (by rw [isSubtype_type]; kernel_rfl)
theorem slot_map_init : Slot "map" "__init__" "object.__init__" :=
  .of (owner := "object") (n := "__init__") (by rw [typeLookup_type, builtinLookup_eq_fast]; kernel_rfl) (by decide +kernel) (by decide +kernel) (by decide +kernel)
    (by first | exact .inl (by decide +kernel) | exact .inr (by decide +kernel)) (by rw [isSubtype_type]; kernel_rfl)
theorem entry_map_next : entryFor table "map.__next__" = some Builtin.«map.__next__» := entryFor_of_tree (by kernel_rfl)
theorem entry_map_iter : entryFor table "map.__iter__" = some Builtin.«dict_keyiterator.__iter__» :=
  entryFor_alias (id' := "dict_keyiterator.__iter__") (by rw [fastTable_eq_tree]; kernel_rfl) (by first | rfl | decide +kernel | (unfold String.splitOn; simp +decide [String.splitOnAux])) (by decide +kernel) (by rw [fastTable_eq_tree]; kernel_rfl)
theorem entry_map_new : entryFor table "map.__new__" = some Builtin.«map.__new__» := entryFor_of_tree (by kernel_rfl)
theorem args_map_next_1 (a : Value) : argsOk "map.__next__" ⟨[a], []⟩ := by
  unfold argsOk; rw [signature?_of (id := "map.__next__") (n := ['_', '_', 't', 'x', 'e', 'n', '_', '_']) (o := ['p', 'a', 'm']) (by kernel_rfl) owner_map]; kernel_rfl
theorem args_map_iter_1 (a : Value) : argsOk "map.__iter__" ⟨[a], []⟩ := by
  unfold argsOk; rw [signature?_of (id := "map.__iter__") (n := ['_', '_', 'r', 'e', 't', 'i', '_', '_']) (o := ['p', 'a', 'm']) (by kernel_rfl) owner_map]; kernel_rfl
theorem mro_map : mroOf (.type "map") = pure [.type "map", .type "object"] := by rw [mroOf_type]; kernel_rfl
theorem lookup_map_new : typeLookup (.type "map") "__new__" = pure (some (.builtin "map.__new__")) := by rw [typeLookup_type, builtinLookup_eq_fast]; kernel_rfl
theorem called_map : TypeCalled "map" "map.__new__" "object.__init__" :=
  ⟨by decide +kernel, by decide +kernel, ⟨_, _, mro_map⟩, madeBy_type mro_map lookup_map_new (by decide +kernel), by decide +kernel, by rw [isSubtype_type]; kernel_rfl, slot_map_init⟩
theorem typeCall_map_2 (a b : Value) : checkTypeCall "map" ⟨[a, b], []⟩ = pure () := by kernel_rfl
theorem newCall_map_2 (a b : Value) : checkBuiltinCall "map.__new__" ⟨[.type "map", a, b], []⟩ = pure () := by kernel_rfl
theorem sub_map : isSubtype (.type "map") (.type "map") = pure true := by rw [isSubtype_type]; kernel_rfl

end MapIt
end Mine

end
section
open PySem PySem.W PyProof.Rows PySem.Calls PySem.Spec
set_option maxRecDepth 100000
namespace Mine
namespace MapIt
noncomputable abbrev IsMap (h : Heap) (M T : Addr) (f : Value) : Prop := h.get? M = some { cls := .type "map", dict := none, data := .fields #[.ref T, f], slots := #[] }
noncomputable abbrev IsOne (h : Heap) (T : Addr) (a : Value) : Prop := h.get? T = some { cls := .type "tuple", data := .seq #[a] }

section
variable {prog : Program} {w : World} {A : Around} {E : Value → Shared → Prop} {s : Shared}
theorem map_next {M T : Addr} {it f : Value} {Q : Value → Shared → Prop} (hM : IsMap s.heap M T f) (hT : IsOne s.heap T it)
    (hn : wpAny (model prog w) A (Builtin.SmallTypes.nextOf it) (fun x s₁ => IsMap s₁.heap M T f ∧ wpAny (model prog w) A (call f [x]) Q E s₁) E s) :
    wpAny (model prog w) A (Builtin.«map.__next__» ⟨[.ref M], []⟩) (fun fin s' => ∃ v, fin = .done (.ret v) ∧ Q v s') E s := by
  show wpAny _ _ (field (.ref M) 0 >>= _) _ _ _
  refine wpAny_bind (wpAny_field hM rfl (x := .ref T) rfl ?_)
  refine wpAny_bind (wpAny_seqItems hT rfl ?_)
  refine wpAny_bind ?_
  simp only [List.forIn_toArray, List.forIn_cons, List.forIn_nil]
  refine wpAny_bind (wpAny_bind (wpAny_holding (wpAny_mono hn (fun x s₁ h₁ => ?_) fun _ _ e => e)))
  obtain ⟨hM₁, h₁⟩ := h₁
  refine wpAny_pure (wpAny_pure ?_)
  refine wpAny_bind (wpAny_field hM₁ rfl (x := f) rfl ?_)
  refine wpAny_bind (wpAny_holding ?_)
  show wpAny _ _ (call f [x]) _ _ _
  refine wpAny_mono h₁ (fun v s₂ h₂ => ?_) fun _ _ e => e
  refine wpAny_bind (wpAny_letGo ?_)
  exact wpAny_pure ⟨_, rfl, h₂⟩
theorem nextOf_map {M T : Addr} {it f : Value} {Q : Value → Shared → Prop} (hM : IsMap s.heap M T f) (hT : IsOne s.heap T it)
    (hn : wpAny (model prog w) A.in1 (Builtin.SmallTypes.nextOf it) (fun x s₁ => IsMap s₁.heap M T f ∧ wpAny (model prog w) A.in1 (call f [x]) Q E s₁) E s) :
    wpAny (model prog w) A (Builtin.SmallTypes.nextOf (.ref M)) Q E s := by
  have hTy : s.TypeIs (.ref M) "map" := ⟨_, hM, rfl⟩
  unfold Builtin.SmallTypes.nextOf
  refine wpAny_bind (wpAny_callSpecial?_slot (name := Str.ofString "__next__") hTy slot_map_next (wpAny_call_entry slot_map_next hTy entry_map_next ?_ (args_map_next_1 _)))
  exact map_next hM hT (wpAny_mono hn (fun x s₁ h => ⟨h.1, wpAny_mono h.2 (fun v s₂ q => wpAny_pure q) fun _ _ e => e⟩) fun _ _ e => e)
theorem pyIter_map {M T : Addr} {f : Value} {Q : Value → Shared → Prop} (hM : IsMap s.heap M T f) (h : Q (.ref M) s) : wpAny (model prog w) A (pyIter (.ref M)) Q E s := by
  have hTy : s.TypeIs (.ref M) "map" := ⟨_, hM, rfl⟩
  refine wpAny_pyIter_slot hTy slot_map_iter (wpAny_call_entry slot_map_iter hTy entry_map_iter ?_ (args_map_iter_1 _))
  show wpAny _ _ (ret (.ref M)) _ _ s
  exact wpAny_pure ⟨_, rfl, "map", _, hTy, slot_map_next.lookup, h⟩
end
noncomputable abbrev mapH1 (h : Heap) (l : Addr) : Heap := h.push { cls := .type "list_iterator", data := .fields #[.ref l, .int 0 0] }
noncomputable abbrev mapH2 (h : Heap) (l : Addr) : Heap := (mapH1 h l).push { cls := .type "tuple", data := .seq #[.ref h.objs.size] }
noncomputable abbrev mapH3 (h : Heap) (l : Addr) (f : Value) : Heap := (mapH2 h l).push { cls := .type "map", data := .fields #[.ref (mapH1 h l).objs.size, f] }
theorem meets_map_new (l : Addr) (f : Value) (xs : Array Value) :
    Meets (Builtin.«map.__new__» ⟨[.type "map", f, .ref l], []⟩) (fun _ R s => s.heap.IsList l xs ∧ R (.ok (.ret (.ref (mapH2 s.heap l).objs.size))) { s with heap := mapH3 s.heap l f }) :=
  .of_wp fun prog w A R s h => by
    obtain ⟨hp, g, d, tk, os⟩ := s; obtain ⟨hl, h⟩ := h
    have hsub := sub_map
    have hL : Heap.IsList (Shared.heap ⟨hp, g, d, tk, os⟩) l xs := hl
    wp_walk using wpAny_pyIter_list hL
    exact ⟨_, rfl, h⟩
noncomputable abbrev mapG1 (h : Heap) (M : Addr) : Heap := h.push { cls := .type "tuple", data := .seq #[.ref M] }
noncomputable abbrev mapG2 (h : Heap) (M : Addr) (f : Value) : Heap := (mapG1 h M).push { cls := .type "map", data := .fields #[.ref h.objs.size, f] }
theorem meets_map_new_map (M T : Addr) (f f' : Value) :
    Meets (Builtin.«map.__new__» ⟨[.type "map", f, .ref M], []⟩) (fun _ R s => IsMap s.heap M T f' ∧ R (.ok (.ret (.ref (mapG1 s.heap M).objs.size))) { s with heap := mapG2 s.heap M f }) :=
  .of_wp fun prog w A R s h => by
    obtain ⟨hp, g, d, tk, os⟩ := s; obtain ⟨hl, h⟩ := h
    have hsub := sub_map
    have hL : IsMap (Shared.heap ⟨hp, g, d, tk, os⟩) M T f' := hl
    wp_walk using pyIter_map hL
    exact ⟨_, rfl, h⟩
section
variable {prog : Program} {w : World} {A : Around} {E : Value → Shared → Prop} {s : Shared}
end
end MapIt
end Mine

end
section
open PySem PySem.W PyProof.Rows PySem.Calls PySem.Spec
set_option maxRecDepth 100000
namespace Mine
namespace MapIt
theorem hint_map_len : typeLookup (.type "map") "__len__" = pure none := by rw [typeLookup_type, builtinLookup_eq_fast]; kernel_rfl
theorem hint_map_hint : typeLookup (.type "map") "__length_hint__" = pure none := by rw [typeLookup_type, builtinLookup_eq_fast]; kernel_rfl
theorem str_fit {n : Int} (h0 : -(10 ^ 10) < n) (h1 : n < 10 ^ 10) : n.natAbs.log2 < 1920 := by
  have hn : n.natAbs < 2 ^ 34 := by omega
  rcases Nat.eq_zero_or_pos n.natAbs with h | h
  · rw [h]; decide
  · exact Nat.lt_trans ((Nat.log2_lt (Nat.ne_of_gt h)).mpr hn) (by decide)

/-- what map(str, map(int, l)) yields of the texts xs -/
structure Told (items : Array Value) (n : Nat) (ns : List Int) : Prop where
  len : ns.length = n
  get : ∀ i (h : i < n), ∃ x t, items[i]? = some (.str x t) ∧ PySem.intText? x = ns[i]? ∧ x.length ≤ 640
  fit : ∀ m ∈ ns, -(10 ^ 10) < m ∧ m < 10 ^ 10
structure Apart (M2 T2 M1 T1 I l : Addr) : Prop where
  a1 : M2 ≠ I
  a2 : T2 ≠ I
  a3 : M1 ≠ I
  a4 : T1 ≠ I
  a5 : l ≠ I
noncomputable def St (M2 T2 M1 T1 I l : Addr) (items : Array Value) (i : Nat) (h : Heap) : Prop :=
  IsMap h M2 T2 (.type "str") ∧ IsOne h T2 (.ref M1) ∧ IsMap h M1 T1 (.type "int") ∧ IsOne h T1 (.ref I) ∧ h.IsListIter I l i ∧ h.IsList l items
section
variable {prog : Program} {w : World} {A : Around} {E : Value → Shared → Prop} {s : Shared}
theorem St.but {M2 T2 M1 T1 I l : Addr} {items : Array Value} {i j : Nat} {h h' : Heap} (D : Apart M2 T2 M1 T1 I l) (S : St M2 T2 M1 T1 I l items i h) (hs : Heap.SameBut I h h') (hi : h'.IsListIter I l j) : St M2 T2 M1 T1 I l items j h' :=
  ⟨hs.extBut _ _ D.a1 S.1, hs.extBut _ _ D.a2 S.2.1, hs.extBut _ _ D.a3 S.2.2.1, hs.extBut _ _ D.a4 S.2.2.2.1, hi, S.2.2.2.2.2.extBut hs.extBut D.a5⟩
/-- one draw of the outer map, the text being a number's -/
theorem next_mm {M2 T2 M1 T1 I l : Addr} {items : Array Value} {i : Nat} {x : Str} {t : Tok} {n : Int} {Q : Value → Shared → Prop} (D : Apart M2 T2 M1 T1 I l) (S : St M2 T2 M1 T1 I l items i s.heap)
    (hx : items[i]? = some (.str x t)) (hn : PySem.intText? x = some n) (hl : x.length ≤ 640) (h0 : -(10 ^ 10) < n) (h1 : n < 10 ^ 10)
    (h : ∀ h' tk u, St M2 T2 M1 T1 I l items (i + 1) h' → Heap.SameBut I s.heap h' → Q (.str (toString n) u) { s with heap := h', toks := tk }) :
    wpAny (model prog w) A (Builtin.«map.__next__» ⟨[.ref M2], []⟩) (fun fin s' => ∃ v, fin = .done (.ret v) ∧ Q v s') E s := by
  refine map_next S.1 S.2.1 ?_
  refine nextOf_map S.2.2.1 S.2.2.2.1 ?_
  refine wpAny_nextOf_list_item S.2.2.2.2.1 S.2.2.2.2.2 hx fun h₁ hi₁ hs₁ => ?_
  have S₁ := S.but D hs₁ hi₁
  refine ⟨S₁.2.2.1, ?_⟩
  refine KIN.call_text hn hl ⟨S₁.1, ?_⟩
  exact P.str_of_int (str_fit h0 h1) (h h₁ _ _ S₁ hs₁)
theorem walks_mm (hh : A.handled = none) {M2 T2 M1 T1 I l : Addr} {items : Array Value} {n : Nat} {ns : List Int} (D : Apart M2 T2 M1 T1 I l) (hT : Told items n ns) (hsz : items.size = n) :
    Walks prog w A M2 [M2, T2, M1, T1, I, l] [I] n (fun i v => ∃ m u, ns[i]? = some m ∧ v = .str (toString m) u) (St M2 T2 M1 T1 I l items) where
  sub := fun b hb => by simp only [List.mem_singleton] at hb; subst hb; simp
  frame := fun i h h' S hk => ⟨hk _ (by simp) _ S.1, hk _ (by simp) _ S.2.1, hk _ (by simp) _ S.2.2.1, hk _ (by simp) _ S.2.2.2.1, S.2.2.2.2.1.at fun o e => hk I (by simp) o e, S.2.2.2.2.2.at fun o e => hk l (by simp) o e⟩
  item := fun i s Q E hi S hQ => by
    obtain ⟨x, t, hx, hn, hl⟩ := hT.get i hi
    have hlt : i < ns.length := by rw [hT.len]; exact hi
    have hm : ns[i]? = some ns[i] := List.getElem?_eq_getElem hlt
    obtain ⟨f0, f1⟩ := hT.fit _ (List.getElem_mem hlt)
    have hTy : s.TypeIs (.ref M2) "map" := ⟨_, S.1, rfl⟩
    unfold pyNext
    refine wpAny_bind (wpAny_attempt (wpAny_callSpecial?_slot (name := Str.ofString "__next__") hTy slot_map_next (wpAny_call_entry slot_map_next hTy entry_map_next ?_ (args_map_next_1 _))))
    exact next_mm D S hx (hn.trans hm) hl f0 f1 fun h' tk u S' hs' => wpAny_pure (hQ _ h' tk ⟨_, u, hm, rfl⟩ S' fun b o hb e => hs'.extBut b o (fun q => hb (by simp [q])) e)
  done := fun s Q E S hQ => by
    have hTy : s.TypeIs (.ref M2) "map" := ⟨_, S.1, rfl⟩
    have hx : items[n]? = none := Array.getElem?_eq_none (by omega)
    unfold pyNext
    refine wpAny_bind (wpAny_attempt (wpAny_callSpecial?_slot (name := Str.ofString "__next__") hTy slot_map_next (wpAny_call_entry slot_map_next hTy entry_map_next ?_ (args_map_next_1 _))))
    refine map_next S.1 S.2.1 (nextOf_map S.2.2.1 S.2.2.2.1 ?_)
    refine wpAny_nextOf_list_end hh S.2.2.2.2.1 S.2.2.2.2.2 hx fun h₁ e hs₁ he => ?_
    obtain ⟨o, ho, hc⟩ := he
    refine wpAny_bind (wpAny_isInstance (T := "StopIteration") (b := true) ⟨o, ho, hc⟩ isSubtype_stop ?_)
    exact wpAny_pure (hQ h₁ _ fun b o hb e => hs₁ b o (fun q => hb (by simp [q])) e)
  self := fun i s Q E S hQ => pyIter_map S.1 hQ

theorem hint_map {M T : Addr} {f : Value} {Q : Bool → Shared → Prop} (hM : IsMap s.heap M T f) (h : Q true s) : wpAny (model prog w) A (Builtin.List.listLengthHint (.ref M)) Q E s := by
  unfold Builtin.List.listLengthHint
  have hTy : s.TypeIs (.ref M) "map" := ⟨_, hM, rfl⟩
  refine wpAny_bind (wpAny_specialOf hTy hint_map_len ?_)
  dsimp only
  refine wpAny_ite_split (fun hab => absurd hab (by decide +kernel)) (fun _ => ?_)
  refine wpAny_ite_split (fun hab => absurd hab (by decide)) (fun _ => ?_)
  refine wpAny_bind (wpAny_specialOf hTy hint_map_hint ?_)
  exact wpAny_pure h
theorem extend_mm {R : Result → Shared → Prop} (hh : A.handled = none) {M2 T2 M1 T1 I l : Addr} {items : Array Value} {n : Nat} {ns : List Int} (D : Apart M2 T2 M1 T1 I l) (hT : Told items n ns) (hsz : items.size = n) (hn : n ≤ 2 ^ 24)
    (S0 : St M2 T2 M1 T1 I l items 0 s.heap) (S : Addr) (res : Value) (c₀ : Nat) (hS : s.heap.get? S = some { cls := .type "list", data := .seq #[] c₀ }) (hSf : S ∉ [M2, T2, M1, T1, I, l])
    (hR : ∀ h' tk acc' c', (∀ b o, b ≠ S → b ≠ I → s.heap.get? b = some o → h'.get? b = some o) → h'.get? S = some { cls := .type "list", dict := none, data := .seq acc' c', slots := #[] } →
      ItemsOf (fun i v => ∃ m u, ns[i]? = some m ∧ v = .str (toString m) u) acc' n → R (.ok (.ret res)) { s with heap := h', toks := tk }) :
    wpAny (model prog w) A.in1 (Builtin.List.listExtendWith (.ref S) (.ref M2) res)
      (fun fin s' => match fin with | .done f => R (.ok f) s' | .again c' => c'.quiet = true ∧ codeAny (model prog w) A c' R s') (fun e s' => R (.error e) s') s := by
  have hSM : S ≠ M2 := fun e => hSf (by simp [e])
  have hSI : S ≠ I := fun e => hSf (by simp [e])
  have W := (walks_mm (prog := prog) (w := w) (A := A.in1) hh D hT hsz).toS
  have key : ∀ (h : Heap) (c₁ tk : Nat), St M2 T2 M1 T1 I l items 0 h → (∀ b o, b ≠ S → s.heap.get? b = some o → h.get? b = some o) →
      h.get? S = some { cls := .type "list", data := .seq #[] c₁ } → codeAny (model prog w) A (.builtin "list.extend.loop" ⟨[.ref S, .ref M2, res], []⟩) R { s with heap := h, toks := tk } := by
    intro h c₁ tk hit hk hS₁
    refine codeAny_extend_loopS W (by rw [sizeLine_eq]; omega) S hSf res n 0 _ #[] c₁ rfl (Nat.zero_le _) hit hS₁ (ItemsOf.nil _) fun s' acc' c' hm hS' hacc => ?_
    rw [Moved.eq_with hm]
    refine hR s'.heap s'.toks acc' c' (fun b o hb hbI e => hm.heap b o (fun hmem => ?_) (hk b o hb e)) hS' hacc
    rcases List.mem_cons.mp hmem with e' | hmem
    · exact hb e'
    · exact hbI (List.mem_singleton.mp hmem)
  unfold Builtin.List.listExtendWith
  refine wpAny_bind (wpAny_typeOf (T := "map") ⟨_, S0.1, rfl⟩ ?_)
  have h1 : Builtin.List.listSameRef (.ref S) (.ref M2) = false := by simp [Builtin.List.listSameRef, hSM]
  have h2 : (Value.type "map" == Value.type "list") = false := by decide
  have h3 : (Value.type "map" == Value.type "tuple") = false := by decide
  simp only [h1, h2, h3, Bool.or_false, Bool.false_eq_true, if_false]
  refine wpAny_bind (pyIter_map S0.1 ?_)
  refine wpAny_bind (wpAny_holding (hint_map S0.1 ?_))
  refine wpAny_ite_split (fun _ => ?_) (fun hab => absurd rfl hab)
  refine wpAny_bind (wpAny_rule ?_)
  refine wpAny_bind ?_
  show wpAny _ _ (updateSeq S (·.push .none) >>= fun _ => updateSeq S (·.pop)) _ _ _
  refine wpAny_bind (wpAny_updateSeq hS rfl ?_)
  have hS₂ := Heap.get?_update_self (Obj.mapSeq (·.push Value.none)) hS rfl
  refine wpAny_updateSeq (hz := by seq_fits) hS₂ rfl ?_
  have hS₃ := Heap.get?_update_self (Obj.mapSeq (·.pop)) hS₂ rfl
  have oth : ∀ b o, b ≠ S → s.heap.get? b = some o → ((s.heap.update S (Obj.mapSeq (·.push Value.none))).update S (Obj.mapSeq (·.pop))).get? b = some o :=
    fun b o hb e => (Heap.get?_update_other _ _ (Ne.symm hb)).trans ((Heap.get?_update_other _ _ (Ne.symm hb)).trans e)
  refine wpAny_pure ⟨plainId_quiet F.plain_extend_loop _, key _ _ _ ?_ oth hS₃⟩
  exact W.frame 0 s _ s.toks S0 (Nat.le_refl _) fun b hb o e => oth b o (fun q => hSf (q ▸ hb)) e
theorem init_mm {R : Result → Shared → Prop} (hh : A.handled = none) {M2 T2 M1 T1 I l : Addr} {items : Array Value} {n : Nat} {ns : List Int} (D : Apart M2 T2 M1 T1 I l) (hT : Told items n ns) (hsz : items.size = n) (hn : n ≤ 2 ^ 24)
    (S0 : St M2 T2 M1 T1 I l items 0 s.heap) (S : Addr) (hS : s.heap.get? S = some { cls := .type "list", data := .seq #[] }) (hSf : S ∉ [M2, T2, M1, T1, I, l])
    (hR : ∀ h' tk acc' c', (∀ b o, b ≠ S → b ≠ I → s.heap.get? b = some o → h'.get? b = some o) → h'.get? S = some { cls := .type "list", dict := none, data := .seq acc' c', slots := #[] } →
      ItemsOf (fun i v => ∃ m u, ns[i]? = some m ∧ v = .str (toString m) u) acc' n → R (.ok (.ret .none)) { s with heap := h', toks := tk }) :
    wpAny (model prog w) A.in1 (Builtin.«list.__init__» ⟨[.ref S, .ref M2], []⟩)
      (fun fin s' => match fin with | .done f => R (.ok f) s' | .again c' => c'.quiet = true ∧ codeAny (model prog w) A c' R s') (fun e s' => R (.error e) s') s := by
  show wpAny _ _ (do let old ← Builtin.List.listItems (.ref S); Builtin.List.listUpdate (.ref S) (fun _ => #[]); letGo old.toList.reverse; Builtin.List.listExtendWith (.ref S) (.ref M2) .none) _ _ s
  refine wpAny_bind ?_
  unfold Builtin.List.listItems
  refine wpAny_bind (wpAny_seqItems hS rfl (wpAny_pure ?_))
  show wpAny _ _ (updateSeq S (fun _ => #[]) >>= fun _ => letGo (#[] : Array Value).toList.reverse >>= fun _ => Builtin.List.listExtendWith (.ref S) (.ref M2) .none) _ _ s
  refine wpAny_bind (wpAny_updateSeq hS rfl ?_)
  have hS₂ := Heap.get?_update_self (Obj.mapSeq (fun _ => (#[] : Array Value))) hS rfl
  have oth : ∀ b o, b ≠ S → s.heap.get? b = some o → (s.heap.update S (Obj.mapSeq (fun _ => (#[] : Array Value)))).get? b = some o :=
    fun b o hb e => (Heap.get?_update_other _ _ (Ne.symm hb)).trans e
  refine wpAny_bind (wpAny_letGo ?_)
  have W := (walks_mm (prog := prog) (w := w) (A := A.in1) hh D hT hsz).toS
  refine extend_mm hh D hT hsz hn (W.frame 0 s _ s.toks S0 (Nat.le_refl _) fun b hb o e => oth b o (fun q => hSf (q ▸ hb)) e) S .none _ hS₂ hSf fun h' tk acc' c' hk hS' hacc => ?_
  exact hR h' tk acc' c' (fun b o hb hbI e => hk b o hb hbI (oth b o hb e)) hS' hacc
/-- list(map(str, map(int, l))), all texts being numbers' -/
theorem call_list_mm {Q : Value → Shared → Prop} (hh : A.handled = none) {M2 T2 M1 T1 I l : Addr} {items : Array Value} {n : Nat} {ns : List Int} (D : Apart M2 T2 M1 T1 I l) (hT : Told items n ns) (hsz : items.size = n) (hn : n ≤ 2 ^ 24)
    (S0 : St M2 T2 M1 T1 I l items 0 s.heap)
    (hQ : ∀ h' tk acc' c', (∀ b o, b ≠ I → s.heap.get? b = some o → h'.get? b = some o) →
      h'.get? s.heap.objs.size = some { cls := .type "list", dict := none, data := .seq acc' c', slots := #[] } → ItemsOf (fun i v => ∃ m u, ns[i]? = some m ∧ v = .str (toString m) u) acc' n → Q (.ref s.heap.objs.size) { s with heap := h', toks := tk }) :
    wpAny (model prog w) A (call (.type "list") [.ref M2]) Q E s := by
  refine callType_codes (Q₁ := fun obj s₁ => obj = .ref s.heap.objs.size ∧ s₁ = { s with heap := s.heap.push { cls := .type "list", data := .seq #[] } }) F.called_list (F.typeCall_list_1 _) F.entry_list_init
    (code_list_new _ ⟨rfl, rfl⟩) fun obj s₁ h₁ => ?_
  obtain ⟨rfl, rfl⟩ := h₁
  have hS : (s.heap.push { cls := .type "list", data := .seq #[] }).get? s.heap.objs.size = some { cls := .type "list", data := .seq #[] } := Heap.get?_push_size _ rfl
  have hlt : ∀ b ∈ [M2, T2, M1, T1, I, l], b < s.heap.objs.size := by
    obtain ⟨e1, e2, e3, e4, ⟨o5, e5, _⟩, ⟨o6, e6, _⟩⟩ := S0
    intro b hb
    simp only [List.mem_cons, List.not_mem_nil, or_false] at hb
    rcases hb with rfl | rfl | rfl | rfl | rfl | rfl
    · exact Heap.lt_size e1
    · exact Heap.lt_size e2
    · exact Heap.lt_size e3
    · exact Heap.lt_size e4
    · exact Heap.lt_size e5
    · exact Heap.lt_size e6
  have W := (walks_mm (prog := prog) (w := w) (A := A.in1) hh D hT hsz).toS
  refine ⟨⟨_, hS, rfl⟩, F.args_list_init_2 _ _, init_mm (A := A.in1) hh D hT hsz hn (W.frame 0 s _ s.toks S0 (Nat.le_refl _) fun b hb o e => Heap.get?_push_of_some _ e) _ hS (fun hm => Nat.lt_irrefl _ (hlt _ hm)) fun h' tk acc' c' hk hS' hacc => ?_⟩
  exact ⟨rfl, hQ h' tk acc' c' (fun b o hb e => hk b o (Nat.ne_of_lt (Heap.lt_size e)) hb (Heap.get?_push_of_some _ e)) hS' hacc⟩
end
end MapIt
end Mine

end
section
open PySem PySem.W PyProof.Rows PySem.Calls PySem.Spec
set_option maxRecDepth 100000
namespace Mine
namespace IntBad
open PySem.NumText
/-- what int(text) does with a text that is no number's, up to the mark -/
noncomputable def refuse (v : Value) : Sem Value := do
  rule "int.__new__.invalid-literal"
  let shown ← pyRepr v
  let m ← mkStr (((s!"invalid literal for int() with base {10}: " : String) ++ ⟨shown.cps.extract 0 200⟩ : Str))
  let refusal ← newExc (.type "ValueError") [m]
  markTheRefusal ["int.__new__"] refusal
  raiseNew refusal
theorem from_text (u : Tok) : (int_private% "intFromText") (.str (Str.ofString "x") u) [120] 10 = refuse (.str (Str.ofString "x") u) := by
  kernel_rfl
theorem int_new_x (u : Tok) : Builtin.«int.__new__» ⟨[.type "int", .str (Str.ofString "x") u], []⟩ = (refuse (.str (Str.ofString "x") u) >>= fun v => ret v) := by
  kernel_rfl
/-- what int(..) does behind int.__new__ -/
noncomputable def behindNew (v obj : Value) : Sem Fin := do
  if !(← isInstance obj (.type "int")) then rule "type.call.new-gave-other-type"; return ← ret obj
  match ← holding [obj] (callSpecial? obj "__init__" [v] []) with
  | none => ret obj
  | some r =>
    if r != .none then
      rule "type.call.init-returned-value"
      raiseError "TypeError" s!"__init__() should return None, not '{← typeNameOf r}'"
    ret obj
theorem type_call_x (u : Tok) : Builtin.«type.__call__» ⟨[.type "int", .str (Str.ofString "x") u], []⟩ =
    (holding [.builtin "int.__new__"] (call (.builtin "int.__new__") [.type "int", .str (Str.ofString "x") u] []) >>= behindNew (.str (Str.ofString "x") u)) := by
  kernel_rfl
theorem entry_int_new : entryFor table "int.__new__" = some Builtin.«int.__new__» := PySem.F.entry_int_new
theorem check_x (u : Tok) : checkBuiltinCall "int.__new__" ⟨[.type "int", .str (Str.ofString "x") u], []⟩ = pure () := PySem.F.newCall_int_1 _

end IntBad
end Mine

end
section
open PySem PySem.W PyProof.Rows PySem.Calls PySem.Spec
set_option maxRecDepth 100000
namespace Mine
namespace IntBad
section
variable {prog : Program} {w : World} {A : Around}
theorem on_any {α : Type} {M : Model} {Γ : PySem.Ctx} {t : Sem α} {Q' : α → Shared → Prop} {E' : Value → Shared → Prop} {Q : α → Pos → Shared → Prop} {E : Value → Pos → Shared → Prop} {p : Pos} {s : Shared} (h : wpAny M A t Q' E' s) (hI : Γ.In A)
    (hQ : ∀ a p s', Q' a s' → Q a p s') (hE : ∀ e p s', E' e s' → E e p s') : Sem.wp M Γ t Q E p s := Sem.wp_mono _ _ _ hQ hE p s (h Γ p hI)
theorem newExc_any {M : Model} {m : Value} {Q E : Value → Shared → Prop} {s : Shared} (h : ∀ h' e, Heap.NewExc s.heap h' e "ValueError" → Q (.ref e) { s with heap := h' }) : wpAny M A (newExc (.type "ValueError") [m]) Q E s := by
  unfold newExc newTuple
  refine wpAny_bind (wpAny_newObj_type ?_)
  refine wpAny_bind (m := firstArgMember _ _) (wpAny_of_eq (a := Value.none) (by simp only [firstArgMember, plainExc_ValueError.first]; rfl) ?_)
  rw [plainExc_ValueError.own]
  refine wpAny_newObj_type ?_
  exact h _ _ ⟨fun b o hb => Heap.get?_push_of_some _ (Heap.get?_push_of_some _ hb), Heap.get?_none_of_le (by simp), _, .ref s.heap.objs.size, Heap.get?_push_size _ rfl, rfl, by simp⟩
theorem mark_not {Γ : PySem.Ctx} {e : Value} {Q : Unit → Pos → Shared → Prop} {E : Value → Pos → Shared → Prop} {p : Pos} {s : Shared} {M : Model} (h : pythonCodeMadeTheCall ["int.__new__"] (((Γ.code, p) :: Γ.below).map (·.1)) = false) (hq : Q () p s) :
    Sem.wp M Γ (markTheRefusal ["int.__new__"] e) Q E p s := by
  unfold markTheRefusal
  rw [Sem.wp_bind']
  show Sem.wp M Γ (.stack .pure) _ _ p s
  rw [Sem.wp_stack]
  show Sem.wp M Γ (if pythonCodeMadeTheCall ["int.__new__"] (((Γ.code, p) :: Γ.below).map (·.1)) = true then _ else _) _ _ p s
  rw [h]
  exact hq
/-- int.__new__ of the text x, called below a draw of a map: a new ValueError, nothing else -/
theorem new_x {Γ : PySem.Ctx} {u : Tok} {E : Value → Pos → Shared → Prop} {Q : Fin → Pos → Shared → Prop} {p : Pos} {s : Shared} (hI : Γ.In A) (hh : A.handled = none)
    (hm : ∀ p, pythonCodeMadeTheCall ["int.__new__"] (((Γ.code, p) :: Γ.below).map (·.1)) = false)
    (hE : ∀ h' tk e p', Heap.NewExc s.heap h' e "ValueError" → E (.ref e) p' { s with heap := h', toks := tk }) :
    Sem.wp (model prog w) Γ (Builtin.«int.__new__» ⟨[.type "int", .str (Str.ofString "x") u], []⟩) Q E p s := by
  rw [int_new_x, Sem.wp_bind']
  unfold refuse
  rw [Sem.wp_bind']
  show Sem.wp _ Γ (pyRepr _ >>= _) _ _ p s
  rw [Sem.wp_bind']
  have q1 := wpAny_pyRepr_str (prog := prog) (w := w) (t := u) (A := A) (x := Str.ofString "x") (s := s) (Q := fun r s' => r = reprText (Str.ofString "x") ∧ s' = { s with toks := s.toks + 1 }) (E := fun _ _ => False) ⟨rfl, rfl⟩ (by decide +kernel)
  refine on_any q1 hI (fun sh p₁ s₁ h₁ => ?_) (fun _ _ _ h => False.elim h)
  obtain ⟨rfl, rfl⟩ := h₁
  rw [Sem.wp_bind']
  have q2 := fun x hx => wpAny_mkStr (x := x) (s := { s with toks := s.toks + 1 }) (M := model prog w) (A := A) (Q := fun r s' => r = .str x (s.toks + 1) ∧ s' = { s with toks := s.toks + 1 + 1 }) (E := fun _ _ => False) ⟨rfl, rfl⟩ hx
  refine on_any (q2 _ (by decide +kernel)) hI (fun sh p₂ s₂ h₂ => ?_) (fun _ _ _ h => False.elim h)
  obtain ⟨rfl, rfl⟩ := h₂
  rw [Sem.wp_bind']
  have q3 := fun m => newExc_any (M := model prog w) (m := m) (s := { s with toks := s.toks + 1 + 1 }) (A := A) (E := fun _ _ => False) (Q := fun v s' => ∃ h' e, v = .ref e ∧ s' = { s with heap := h', toks := s.toks + 1 + 1 } ∧ Heap.NewExc s.heap h' e "ValueError") (fun h' e x => ⟨h', e, rfl, rfl, x⟩)
  refine on_any (q3 _) hI (fun v p₃ s₃ h₃ => ?_) (fun _ _ _ h => False.elim h)
  obtain ⟨h', e, rfl, rfl, x⟩ := h₃
  rw [Sem.wp_bind']
  refine mark_not (hm p₃) ?_
  have hr : wpAny (model prog w) A (raiseNew (.ref e) : Sem Value) (fun _ _ => False) (fun v s' => v = .ref e ∧ s' = { s with heap := h', toks := s.toks + 1 + 1 }) { s with heap := h', toks := s.toks + 1 + 1 } := by
    unfold raiseNew
    refine wpAny_bind (wpAny_handled ?_)
    rw [hh]
    first
      | exact wpAny_throw ⟨rfl, rfl⟩
      | exact wpAny_bind (wpAny_pure (wpAny_throw ⟨rfl, rfl⟩))
  refine on_any hr hI (fun _ _ _ h => False.elim h) (fun v p₄ s₄ h₄ => ?_)
  obtain ⟨rfl, rfl⟩ := h₄
  exact hE _ _ _ _ x
theorem code_builtin_on {Γ : PySem.Ctx} {R : Result → Shared → Prop} {p : Pos} {s : Shared} {id : String} {args : Args} {b : Builtin} (hb : entryFor table id = some b) (hc : Γ.code = .builtin id args)
    (h : Sem.wp (model prog w) Γ (b args) (Sem.finPost (model prog w) Γ R) (fun e _ s' => R (.error e) s') p s) : wpCode (model prog w) Γ R p s := by
  rw [wpCode_iff_wp, hc]
  show Sem.wp _ Γ (match entryFor table id with | some b => b args | none => unsupported ((withoutEnding? id "#data").getD id)) _ _ p s
  rw [hb]; exact h
theorem code_type_on {Γ : PySem.Ctx} {R : Result → Shared → Prop} {p : Pos} {s : Shared} {T : String} {args : List Value} (hc : Γ.code = .call (.type T) ⟨args, []⟩) (hq : (Code.builtin "type.__call__" ⟨.type T :: args, []⟩).quiet = true)
    (h : wpCode (model prog w) (Γ.goto (.builtin "type.__call__" ⟨.type T :: args, []⟩)) R p s) : wpCode (model prog w) Γ R p s := by
  rw [wpCode_iff_wp, hc]
  exact ⟨hq, h⟩
theorem code_call_on {Γ : PySem.Ctx} {R : Result → Shared → Prop} {p : Pos} {s : Shared} {id : String} {args : Args} (hc : Γ.code = .call (.builtin id) args) (hk : checkBuiltinCall id args = pure ()) (hq : (Code.builtin id args).quiet = true)
    (h : wpCode (model prog w) (Γ.goto (.builtin id args)) R p s) : wpCode (model prog w) Γ R p s := by
  rw [wpCode_iff_wp, hc]
  show Sem.wp _ Γ (do checkBuiltinCall id args; again (.builtin id args)) _ _ p s
  rw [hk, pure_bind]
  exact ⟨hq, h⟩
/-- a call at a fixed context -/
theorem wp_call_on {Γ : PySem.Ctx} {f : Value} {pos : List Value} {Q : Value → Pos → Shared → Prop} {E : Value → Pos → Shared → Prop} {p : Pos} {s : Shared} {M : Model}
    (h : wpCode M (Γ.enter (.call f ⟨pos, []⟩) none p) (fun r s' => match r with | .ok (.ret v) => Q v p s' | .ok _ => False | .error e => E e p s') p s) : Sem.wp M Γ (call f pos []) Q E p s := by
  unfold call runValue run
  rw [Sem.wp_bind', Sem.wp_call]
  refine wpCode_mono (fun r s' hr => ?_) h
  cases r with
  | error e => exact hr
  | ok fl =>
    cases fl with
    | ret v => exact hr
    | next => exact hr.elim
    | brk => exact hr.elim
    | cont => exact hr.elim
theorem not_python (am ax ay : Args) (q p p' : Pos) (rest : List (Code × Pos)) : pythonCodeMadeTheCall ["int.__new__"] (((.builtin "int.__new__" ax, p') :: (.builtin "type.__call__" ay, p) :: (.builtin "map.__next__" am, q) :: rest).map (·.1)) = false := by
  simp only [List.map_cons]
  unfold pythonCodeMadeTheCall
  have e1 : (Code.builtin "int.__new__" ax).env?.isNone = true := rfl
  have e2 : (Code.builtin "type.__call__" ay).env?.isNone = true := rfl
  have e3 : (Code.builtin "map.__next__" am).env?.isNone = true := rfl
  rw [List.takeWhile_cons_of_pos (p := fun x : Code => x.env?.isNone) e1, List.takeWhile_cons_of_pos (p := fun x : Code => x.env?.isNone) e2, List.takeWhile_cons_of_pos (p := fun x : Code => x.env?.isNone) e3, List.all_cons, List.all_cons, List.all_cons]
  dsimp only
  rw [show ("map.__next__" == "type.__call__") = false from by decide, show (["int.__new__"].contains "map.__next__") = false from by decide]
  simp only [Bool.false_and, Bool.or_false, Bool.and_false]
/-- int(x) called by a draw of a map -/
theorem code_x {Γ : PySem.Ctx} {u : Tok} {R : Result → Shared → Prop} {p : Pos} {s : Shared} (hB : Γ.Below A) (hh : A.handled = none) (hc : Γ.code = .call (.type "int") ⟨[.str (Str.ofString "x") u], []⟩)
    (hbel : ∃ a q rest, Γ.below = (.builtin "map.__next__" a, q) :: rest) (hR : ∀ h' tk e, Heap.NewExc s.heap h' e "ValueError" → R (.error (.ref e)) { s with heap := h', toks := tk }) :
    wpCode (model prog w) Γ R p s := by
  obtain ⟨am, q, rest, hbel⟩ := hbel
  refine code_type_on hc (Code.quiet_builtin _ (by decide +kernel)) ?_
  refine code_builtin_on F.entry_type_call rfl ?_
  rw [type_call_x, Sem.wp_bind', Sem.wp_holding]
  have hB1 : (Γ.goto (.builtin "type.__call__" ⟨[.type "int", .str (Str.ofString "x") u], []⟩)).Below A := hB.goto _
  have hI1 : (Γ.goto (.builtin "type.__call__" ⟨[.type "int", .str (Str.ofString "x") u], []⟩)).In A.in1 := by
    have := hB1.in
    rw [show (Γ.goto (.builtin "type.__call__" ⟨[.type "int", .str (Str.ofString "x") u], []⟩)).code = .builtin "type.__call__" ⟨[.type "int", .str (Str.ofString "x") u], []⟩ from rfl, Around.under_plain (weight_type_call_type "int" _ []) (units_type_call_type "int" _ [])] at this
    exact this
  have hB2 := hI1.enter (.call (.builtin "int.__new__") ⟨[.type "int", .str (Str.ofString "x") u], []⟩) none p (by intro h; cases h)
  refine wp_call_on (code_call_on rfl (check_x u) (Code.quiet_builtin _ (by decide +kernel)) (code_builtin_on entry_int_new rfl ?_))
  refine new_x (hB2.goto _).in (by exact hh) (fun p' => ?_) (fun h' tk e p' x => hR h' tk e x)
  show pythonCodeMadeTheCall ["int.__new__"] (((.builtin "int.__new__" _, p') :: (.builtin "type.__call__" _, p) :: Γ.below).map (·.1)) = false
  rw [hbel]
  exact not_python _ _ _ _ _ _ _
end
end IntBad
end Mine

end
section
open PySem PySem.W PyProof.Rows PySem.Calls PySem.Spec
set_option maxRecDepth 100000
namespace Mine
namespace MapIt
noncomputable abbrev mapO (T : Addr) (f : Value) : Obj := { cls := .type "map", dict := none, data := .fields #[.ref T, f], slots := #[] }
noncomputable abbrev oneO (v : Value) : Obj := { cls := .type "tuple", data := .seq #[v] }
noncomputable abbrev iterO (l : Addr) : Obj := { cls := .type "list_iterator", data := .fields #[.ref l, .int 0 0] }
section
variable {prog : Program} {w : World} {A : Around} {E : Value → Shared → Prop} {s : Shared} {h₀ : Heap} {L : Addr} {m : Str → Option Value} {news : List (Addr × Obj)} {Q : Value → Shared → Prop}
theorem fresh_none {h : Heap} {a : Addr} (F : Fr h₀ L h m) (ha : h.objs.size ≤ a) : h₀.get? a = none := by
  cases e : h₀.get? a with
  | none => rfl
  | some o => exact absurd (Heap.lt_size (F.keep _ _ e)) (Nat.not_lt.mpr ha)
theorem news_new {h h' : Heap} {a : Addr} {o : Obj} (F : Fr h₀ L h m) (N : News h₀ L h' news) (ha : h.objs.size ≤ a) (e : h'.get? a = some o) : News h₀ L h' ((a, o) :: news) := fun p hp => by
  rcases List.mem_cons.mp hp with rfl | hp
  · exact ⟨e, Nat.ne_of_gt (Nat.lt_of_lt_of_le F.ns.lt ha), fresh_none F ha⟩
  · exact N p hp
/-- map(f, l) over a list of the ledger -/
theorem mapL_K {l : Addr} {xs : Array Value} {f : Value} (F : Fr h₀ L s.heap m) (N : News h₀ L s.heap news) (hl : s.heap.IsList l xs)
    (h : ∀ a h', Fr h₀ L h' m → News h₀ L h' ((a + 2, mapO (a + 1) f) :: (a + 1, oneO (.ref a)) :: (a, iterO l) :: news) → (∀ p ∈ news, p.1 < a) → L < a → l < a → Q (.ref (a + 2)) { s with heap := h' }) :
    wpAny (model prog w) A (call (.type "map") [f, .ref l]) Q E s := by
  refine callType_new called_map (by decide) (typeCall_map_2 _ _) (newCall_map_2 _ _) (fun obj => PySem.F.args_object_init_3 obj _ _) entry_map_new (meets_map_new l f xs) ⟨hl, ?_⟩
  have z1 : (mapH1 s.heap l).objs.size = s.heap.objs.size + 1 := Heap.size_push ..
  have z2 : (mapH2 s.heap l).objs.size = s.heap.objs.size + 2 := by rw [Heap.size_push, z1]
  have g3 : (mapH3 s.heap l f).get? (mapH2 s.heap l).objs.size = some _ := Heap.get?_push_size _ rfl
  have g2 : (mapH3 s.heap l f).get? (mapH1 s.heap l).objs.size = some _ := Heap.get?_push_of_some _ (Heap.get?_push_size _ rfl)
  have g1 : (mapH3 s.heap l f).get? s.heap.objs.size = some _ := Heap.get?_push_of_some _ (Heap.get?_push_of_some _ (Heap.get?_push_size _ rfl))
  have up : ∀ c o, s.heap.get? c = some o → (mapH3 s.heap l f).get? c = some o := fun c o x => Heap.get?_push_of_some _ (Heap.get?_push_of_some _ (Heap.get?_push_of_some _ x))
  show _ ∧ _
  rw [z2, z1] at g3
  rw [z1] at g2
  rw [z2]
  obtain ⟨ol, hol, _⟩ := hl
  exact ⟨⟨_, g3, rfl⟩, h _ _ (F.keeps up) (news_new F (news_new F (news_new F (N.grown up) (Nat.le_refl _) g1) (Nat.le_add_right _ 1) g2) (Nat.le_add_right _ 2) g3) (fun p hp => Heap.lt_size (N p hp).1) F.ns.lt (Heap.lt_size hol)⟩
/-- map(f, map(..)) -/
theorem mapM_K {M T : Addr} {f f' : Value} (F : Fr h₀ L s.heap m) (N : News h₀ L s.heap news) (hl : IsMap s.heap M T f')
    (h : ∀ a h', Fr h₀ L h' m → News h₀ L h' ((a + 1, mapO a f) :: (a, oneO (.ref M)) :: news) → (∀ p ∈ news, p.1 < a) → L < a → Q (.ref (a + 1)) { s with heap := h' }) :
    wpAny (model prog w) A (call (.type "map") [f, .ref M]) Q E s := by
  refine callType_new called_map (by decide) (typeCall_map_2 _ _) (newCall_map_2 _ _) (fun obj => PySem.F.args_object_init_3 obj _ _) entry_map_new (meets_map_new_map M T f f') ⟨hl, ?_⟩
  have z1 : (mapG1 s.heap M).objs.size = s.heap.objs.size + 1 := Heap.size_push ..
  have g2 : (mapG2 s.heap M f).get? (mapG1 s.heap M).objs.size = some _ := Heap.get?_push_size _ rfl
  have g1 : (mapG2 s.heap M f).get? s.heap.objs.size = some _ := Heap.get?_push_of_some _ (Heap.get?_push_size _ rfl)
  have up : ∀ c o, s.heap.get? c = some o → (mapG2 s.heap M f).get? c = some o := fun c o x => Heap.get?_push_of_some _ (Heap.get?_push_of_some _ x)
  show _ ∧ _
  rw [z1] at g2
  rw [z1]
  exact ⟨⟨_, g2, rfl⟩, h _ _ (F.keeps up) (news_new F (news_new F (N.grown up) (Nat.le_refl _) g1) (Nat.le_add_right _ 1) g2) (fun p hp => Heap.lt_size (N p hp).1) F.ns.lt⟩

/-- the ledger behind the two maps -/
noncomputable abbrev mmNews (b a l : Addr) (news : List (Addr × Obj)) : List (Addr × Obj) :=
  (b + 1, mapO b (.type "str")) :: (b, oneO (.ref (a + 2))) :: (a + 2, mapO (a + 1) (.type "int")) :: (a + 1, oneO (.ref a)) :: (a, iterO l) :: news
theorem mm_st {b a l : Addr} {h : Heap} {items : Array Value} (N : News h₀ L h (mmNews b a l news)) (hl : h.IsList l items) : St (b + 1) b (a + 2) (a + 1) a l items 0 h :=
  ⟨(N _ (.head _)).1, (N _ (.tail _ (.head _))).1, (N _ (.tail _ (.tail _ (.head _)))).1, (N _ (.tail _ (.tail _ (.tail _ (.head _))))).1, ⟨_, (N _ (.tail _ (.tail _ (.tail _ (.tail _ (.head _)))))).1, rfl, rfl⟩, hl⟩
theorem mm_apart {b a l : Nat} (hb : a + 2 < b) (hl : l < a) : Apart (b + 1) b (a + 2) (a + 1) a l :=
  ⟨Nat.ne_of_gt (by omega), Nat.ne_of_gt (by omega), Nat.ne_of_gt (by omega), Nat.ne_of_gt (by omega), Nat.ne_of_lt hl⟩
theorem strs_of : ∀ (vs : List Value) (ns : List Int), vs.length = ns.length → (∀ (j : Nat) (v : Value), vs[j]? = some v → ∃ m u, ns[j]? = some m ∧ v = Value.str (Str.ofString (toString m)) u) → StrsAre vs (ns.map fun i => Str.ofString (toString i))
  | [], [], _, _ => .nil
  | [], _ :: _, h, _ => by cases h
  | _ :: _, [], h, _ => by cases h
  | v :: vs, n :: ns, hl, h => by
    obtain ⟨m, u, e, rfl⟩ := h 0 v rfl
    cases e
    exact .cons _ u (strs_of vs ns (Nat.succ.inj hl) fun j v' e' => h (j + 1) v' e')
/-- list(map(str, map(int, l))), all texts numbers' -/
theorem listMM_K {b a l : Nat} {items : Array Value} {n : Nat} {ns : List Int} (hh : A.handled = none) (F : Fr h₀ L s.heap m) (N : News h₀ L s.heap (mmNews b a l news)) (hl : s.heap.IsList l items) (hT : Told items n ns) (hsz : items.size = n) (hn : n ≤ 2 ^ 24)
    (hb : a + 2 < b) (hla : l < a) (hna : ∀ p ∈ news, p.1 < a)
    (h : ∀ D h' tk c (vs : List Value), Fr h₀ L h' m → News h₀ L h' ((D, ({ cls := .type "list", data := .seq vs.toArray c } : Obj)) :: news) → (∀ p ∈ news, p.1 < D) → StrsAre vs (ns.map fun i => Str.ofString (toString i)) → Q (.ref D) { s with heap := h', toks := tk }) :
    wpAny (model prog w) A (call (.type "list") [.ref (b + 1)]) Q E s := by
  refine call_list_mm hh (mm_apart hb hla) hT hsz hn (mm_st N hl) fun h' tk acc c hk hD hacc => ?_
  have hI := N (a, iterO l) (.tail _ (.tail _ (.tail _ (.tail _ (.head _)))))
  have hLI : L ≠ a := Ne.symm hI.2.1
  have F' : Fr h₀ L h' m := ⟨F.ns.at' fun o e => hk L o hLI e, fun c o e => hk c o (fun q => by rw [q, hI.2.2] at e; cases e) (F.keep c o e), F.above⟩
  have N' : News h₀ L h' news := fun p hp => by
    have z := N p (.tail _ (.tail _ (.tail _ (.tail _ (.tail _ hp)))))
    exact ⟨hk _ _ (Nat.ne_of_lt (hna p hp)) z.1, z.2⟩
  refine h _ h' tk c acc.toList F' (news_new F N' (Nat.le_refl _) hD) (fun p hp => Heap.lt_size (N p (.tail _ (.tail _ (.tail _ (.tail _ (.tail _ hp)))))).1) ?_
  exact strs_of _ _ (by rw [Array.length_toList, hacc.1, hT.len]) fun j v e => hacc.2 j v (by simpa using e)
end
end MapIt
end Mine

end
section
open PySem PySem.W PyProof.Rows PySem.Calls
set_option maxRecDepth 100000
namespace Mine
theorem Fr_eq {h₀ h : Heap} {L : Addr} {m m' : Str → Option Value} (F : Fr h₀ L h m) (e : ∀ y, m y = m' y) : Fr h₀ L h m' := (funext e : m = m') ▸ F
section
variable {prog : Program} {w : World} {A : Around} {s : Shared} {R : Result → Shared → Prop}
theorem iterC_range {h₀ : Heap} {env : Env} {x : Str} {px : Pos} {body : List Stmt} {E : Value → Shared → Prop} {r : Addr} {a b c : Int} {t u v : Tok} {n : Nat} {m : Str → Option Value} {news : List (Addr × Obj)}
    (hr : IsRange s.heap r a b c t u v) (hsmall : Builtin.Range.small a b c = true) (hn : Builtin.Range.rangeSize a b c = (n : Int))
    (hh : A.handled = none) (hx : env.kindOf x = some .local)
    (hp : (env.scope.kind == .class || (env.scope.kind == .module && env.locals != env.globals)) = false)
    (F : Fr h₀ env.locals s.heap m) (N : News h₀ env.locals s.heap news)
    (J : Nat → (Str → Option Value) → List (Addr × Obj) → Prop) (h0 : J 0 m news)
    (turn : ∀ I i t m₁ news₁ h tk (Qb : Flow → Shared → Prop), I = s.heap.objs.size → i < n → J i m₁ news₁ → (∀ p ∈ news₁, p.1 ≠ I) → Fr h₀ env.locals h (fun y => if y = x then some (.int (a + i * c) t) else m₁ y) →
      News h₀ env.locals h ((I, rangeIt (a + ((i + 1 : Nat) : Int) * c) (n - ((i + 1 : Nat) : Int)) c) :: news₁) →
      (∀ h' tk' m₂ news₂, Fr h₀ env.locals h' m₂ → News h₀ env.locals h' ((I, rangeIt (a + ((i + 1 : Nat) : Int) * c) (n - ((i + 1 : Nat) : Int)) c) :: news₂) → (∀ p ∈ news₂, p.1 ≠ I) → J (i + 1) m₂ news₂ → Qb .next { s with heap := h', toks := tk' }) →
      wpC (model prog w) A (execs body env) Qb (fun _ _ => False) { s with heap := h, toks := tk })
    (done : ∀ h' tk m' news', Fr h₀ env.locals h' m' → News h₀ env.locals h' news' → (∀ p ∈ news', p.1 ≠ s.heap.objs.size) → J n m' news' → R (.ok .next) { s with heap := h', toks := tk }) :
    wpAny (model prog w) A (pyIter (.ref r)) (fun it s₂ => codeC (model prog w) A (.forLoop (.Name x px) it body [] env) R s₂) E s := by
  refine wpAny_pyIter_range hr hsmall ?_
  have up : ∀ b o, s.heap.get? b = some o → (s.heap.push (rangeIt a n c)).get? b = some o := fun b o e => Heap.get?_push_of_some _ e
  rw [hn]
  exact codeC_forRange (h₀ := h₀) (s := { s with heap := s.heap.push (rangeIt a n c) }) (I := s.heap.objs.size) hh hx hp (Nat.ne_of_lt F.ns.lt) (MapIt.fresh_none F (Nat.le_refl _)) (Heap.get?_push_size _ rfl) (F.keeps up) (N.grown up)
    (fun p hp => Nat.ne_of_lt (Heap.lt_size (N p hp).1)) J h0 (fun i t m₁ news₁ h tk Qb hi hJ hne F' N' hQ => turn _ i t m₁ news₁ h tk Qb rfl hi hJ hne F' N' hQ) (fun h' tk m' news' F' N' hne hJ => done h' tk m' news' F' N' hne hJ)
end
end Mine

end
section
open PySem PySem.W PyProof.Rows PySem.Calls
set_option maxRecDepth 100000
namespace Mine
section
variable {prog : Program} {w : World} {A : Around} {s : Shared} {R : Result → Shared → Prop}
/-- a def with cells entered -/
theorem codeC_defC {A₀ : Around} {base h₀ : Heap} {L : Addr} {m : Str → Option Value} {news : List (Addr × Obj)} {K : Frag} {p : Program} {loose : List Str} {mean : ExcName → Option Value} {mg mb : Str → Option Value}
    {env : Env} {outer : List Env} {name qual : Str} {params : Arguments} {body : List Stmt} {scope : Scope} {dV kV doc pm cdv ct oc : Value} {an od : Option Addr} {osl : Array (Option Value)} {f : Addr} {args : Args} {binds : List (Str × Value)}
    (B : Below A₀ base outer h₀) (F : Fr h₀ L s.heap m) (X₀ : K.In h₀) (N : News h₀ L s.heap news) (T : Top p loose mean mg mb h₀) (hA : A.frames = some (env :: outer)) (hf : env.frame = some L) (hke : env.scope.kind = .function)
    (ho : K.lookup f = some ⟨oc, od, .func (fnOf name qual params body scope dV kV doc pm an cdv ct), osl⟩) (hcd : codeIn K cdv qual = true) (hroom : A.depth < recursionLimit)
    (hbind : BindsTo s (fnOf name qual params body scope dV kV doc pm an cdv ct) args binds) (hkind : (binds.all fun y => scope.names.lookup y.1 == some .local || scope.names.lookup y.1 == some .cell) = true)
    (hnd : ((cellsFrom 0 scope.names []).map (·.1)).Nodup)
    (h : ∀ g L' h₁ tk cells, Fr h₀ L g m → Fr g L' h₁ (bindL (envOfC qual scope L' f cdv).kindOf binds fun _ => none) → News g L' h₁ (cells ++ news) →
      CellsAre (bindC (envOfC qual scope L' f cdv).kindOf binds fun _ => none) (cellsFrom (L' + 1) scope.names []) cells → Below A base (env :: outer) g → K.In g → Top p loose mean mg mb g → (∀ p ∈ news, p.1 < L') →
      wpC (model prog w) (A.deeper (envOfC qual scope L' f cdv)) (execs body (envOfC qual scope L' f cdv))
        (fun fl s' => LeaveK h₀ L m g R (match fl with | .ret v => v | _ => .none) s') (fun _ _ => False)
        { s with heap := h₁, toks := tk })
    (hco : scope.isCoroutine = false) (hgen : scope.isGenerator = false) (hk : scope.kind = .function) : codeC (model prog w) A (.call (.ref f) args) R s := by
  have hkind := kindsX hkind
  have ho' := (X₀.keeps F.keep) _ _ ho
  obtain ⟨FG, BG, st, lv⟩ := groundX (R := R) B F N hA hf hke
  refine codeC_call_function (fd := fnOf name qual params body scope dV kV doc pm an cdv ct) hroom ho' rfl hco hgen rfl (codeRec_of (X₀.keeps F.keep) hcd) (hbind _ _ _ _ ?_)
  refine wpAny_newFunctionEnv_cells hk (hkind _) fun env' he s' x => ?_
  subst he
  refine ⟨(T.nolimit.keeps F.keep).keeps x.toInCall.keep, codeC_func ?_⟩
  obtain ⟨h₁, tk, rfl, _⟩ := x.done
  have hk₁ := x.toInCall.keep
  obtain ⟨cells, NC, Y⟩ := Cl.news (h₀ := s.heap) (Nat.le_refl _) fun n c hm => ⟨x.cell n c (lookup_of_mem_nodup (cellsFrom_names scope.names 0 (s.heap.objs.size + 1) [] [] rfl ▸ hnd) hm), x.above n c hm⟩
  refine wpC_mono (h _ s.heap.objs.size h₁ tk cells FG ⟨x.toInCall.ns, fun b o e => hk₁ b o (of_hideAll _ e), Nat.le_of_eq (hideAll_size _ _)⟩ (fun p hp => ?_) Y BG (X₀.keeps st) (T.keeps st) (fun p hp => Heap.lt_size (N p hp).1)) (fun fl s' hl => lv _ _ hl) fun _ _ y => y.elim
  rcases List.mem_append.mp hp with hp | hp
  · refine ⟨(NC p hp).1, (NC p hp).2.1, ?_⟩
    cases q : (hideAll s.heap (news.map (·.1))).get? p.1 with
    | none => rfl
    | some o => have := of_hideAll _ q; rw [(NC p hp).2.2] at this; cases this
  · exact ⟨hk₁ _ _ (N p hp).1, Nat.ne_of_lt (Heap.lt_size (N p hp).1), hideAll_none _ (List.mem_map_of_mem hp)⟩
end
end Mine

end
section
open PySem PySem.W PyProof.Rows PySem.Calls
set_option maxRecDepth 100000
namespace Mine
section
variable {prog : Program} {w : World} {A : Around} {E : Value → Shared → Prop} {s : Shared} {h₀ : Heap} {L : Addr} {m : Str → Option Value} {news : List (Addr × Obj)}
theorem iter_range_K {r : Addr} {a b c : Int} {t u v : Tok} {n : Int} {Q : Value → Shared → Prop} (F : Fr h₀ L s.heap m) (N : News h₀ L s.heap news)
    (hr : IsRange s.heap r a b c t u v) (hsmall : Builtin.Range.small a b c = true) (hn : Builtin.Range.rangeSize a b c = n)
    (h : ∀ I h', Fr h₀ L h' m → News h₀ L h' ((I, rangeIt a n c) :: news) → (∀ p ∈ news, p.1 < I) → h'.objs.size = I + 1 → Q (.ref I) { s with heap := h' }) : wpAny (model prog w) A (pyIter (.ref r)) Q E s := by
  refine wpAny_pyIter_range hr hsmall ?_
  rw [hn]
  have up : ∀ b o, s.heap.get? b = some o → (s.heap.push (rangeIt a n c)).get? b = some o := fun b o e => Heap.get?_push_of_some _ e
  exact h _ _ (F.keeps up) (MapIt.news_new F (N.grown up) (Nat.le_refl _) (Heap.get?_push_size _ rfl)) (fun p hp => Heap.lt_size (N p hp).1) (Heap.size_push ..)
theorem next_range_K {I : Addr} {x left c : Int} {Q : Option Value → Shared → Prop} (F : Fr h₀ L s.heap m) (N : News h₀ L s.heap ((I, rangeIt x left c) :: news)) (hne : ∀ p ∈ news, p.1 ≠ I) (hleft : 0 < left)
    (h : ∀ h', Fr h₀ L h' m → News h₀ L h' ((I, rangeIt (x + c) (left - 1) c) :: news) → Q (some (.int x s.toks)) { s with heap := h', toks := s.toks + 1 }) : wpAny (model prog w) A (pyNext (.ref I)) Q E s := by
  have z := N _ (.head _)
  refine wpAny_pyNext_range_item z.1 hleft fun h' hit hs => h h' ?_ ?_
  · exact ⟨F.ns.at' fun o e => hs.extBut L o (Ne.symm z.2.1) e, fun b o e => hs.extBut b o (fun q => by rw [q, z.2.2] at e; cases e) (F.keep b o e), F.above⟩
  · intro p hp
    rcases List.mem_cons.mp hp with rfl | hp
    · exact ⟨hit, z.2⟩
    · have y := N p (.tail _ hp)
      exact ⟨hs.extBut _ _ (hne p hp) y.1, y.2⟩
theorem next_range_end {I : Addr} {x left c : Int} {Q : Option Value → Shared → Prop} (hh : A.handled = none) (F : Fr h₀ L s.heap m) (N : News h₀ L s.heap ((I, rangeIt x left c) :: news)) (hne : ∀ p ∈ news, p.1 ≠ I) (hleft : left ≤ 0)
    (h : ∀ h', Fr h₀ L h' m → News h₀ L h' news → Q none { s with heap := h' }) : wpAny (model prog w) A (pyNext (.ref I)) Q E s := by
  have z := N _ (.head _)
  refine wpAny_pyNext_range_end hh z.1 hleft fun h' hs => h h' ?_ ?_
  · exact ⟨F.ns.at' fun o e => hs L o (Ne.symm z.2.1) e, fun b o e => hs b o (fun q => by rw [q, z.2.2] at e; cases e) (F.keep b o e), F.above⟩
  · intro p hp
    have y := N p (.tail _ hp)
    exact ⟨hs _ _ (hne p hp) y.1, y.2⟩
end
end Mine

end
section
open PySem PySem.W PyProof.Rows PySem.Calls
set_option maxRecDepth 100000
namespace Mine
section
variable {prog : Program} {w : World} {A : Around} {s : Shared} {R : Result → Shared → Prop}
noncomputable abbrev comp2 (elt t0 i0 t1 i1 : Expr) (scope : Scope) (pos : Pos) : Expr := .ListComp elt [⟨t0, i0, [], 0⟩, ⟨t1, i1, [], 0⟩] scope pos
theorem comp2_turn0 (elt t0 i0 t1 i1 : Expr) (scope : Scope) (pos : Pos) (it acc : Value) (env : Env) : compTurn (comp2 elt t0 i0 t1 i1 scope pos) 0 it acc env = (do
    standAt i0.pos
    match ← pyNext it with
    | none => pure (.done .next)
    | some v =>
      letOwnedTupleGo t0 it v
      assign t0 env v
      let x ← eval i1 env
      standAt i1.pos
      let x ← foldedSetIterable i1 env x
      let _ ← runOwn (.compStart (comp2 elt t0 i0 t1 i1 scope pos) 1 (← holding [x] (pyIter x)) acc env) env
      again (.compLoop (comp2 elt t0 i0 t1 i1 scope pos) 0 it acc env)) := by
  rfl
theorem comp2_turn1 (elt t0 i0 t1 i1 : Expr) (scope : Scope) (pos : Pos) (it acc : Value) (env : Env) : compTurn (comp2 elt t0 i0 t1 i1 scope pos) 1 it acc env = (do
    standAt i1.pos
    match ← pyNext it with
    | none => pure (.done .next)
    | some v =>
      letOwnedTupleGo t1 it v
      assign t1 env v
      (do let _ ← call (.builtin "list.append") [acc, ← eval elt env])
      again (.compLoop (comp2 elt t0 i0 t1 i1 scope pos) 1 it acc env)) := by
  rfl
theorem wpAny_dead {α : Type} {M : Model} {E : Value → Shared → Prop} {t : Sem α} {Q : α → Shared → Prop} (h : wpAny M A t Q (fun _ _ => False) s) : wpAny M A t Q E s := wpAny_mono h (fun _ _ x => x) fun _ _ x => x.elim
theorem codeAny_outer2 {elt t0 i0 t1 i1 : Expr} {scope : Scope} {pos : Pos} {it acc : Value} {env : Env} (I : Nat → Shared → Prop)
    (turn : ∀ n s, I n s → wpAny (model prog w) A (pyNext it) (fun r s₁ => match r with
      | none => R (.ok .next) s₁
      | some v => wpAny (model prog w) A (letOwnedTupleGo t0 it v) (fun _ s₁' => wpAny (model prog w) A (assign t0 env v) (fun _ s₂ => wpAny (model prog w) A (eval i1 env) (fun x s₃ => wpAny (model prog w) A (pyIter x) (fun it' s₄ =>
          codeAny (model prog w) A (.compStart (comp2 elt t0 i0 t1 i1 scope pos) 1 it' acc env) (fun r s₅ => match r with | .ok _ => ∃ m, m < n ∧ I m s₅ | .error _ => False) s₄) (fun _ _ => False) s₃) (fun _ _ => False) s₂) (fun _ _ => False) s₁') (fun _ _ => False) s₁) (fun _ _ => False) s)
    (hs : ∀ x, foldedSetIterable i1 env x = pure x) (n : Nat) (h : I n s) :
    codeAny (model prog w) A (.compLoop (comp2 elt t0 i0 t1 i1 scope pos) 0 it acc env) R s := by
  refine codeAny_loop rfl I (fun n s hI => ?_) n h
  show wpAny _ A ((compTurn (comp2 elt t0 i0 t1 i1 scope pos) 0 it acc env).onRaise (fun x => do noteFrame x env; theTreesLotGoes x)) _ _ s
  refine wpAny_onRaise (wpAny_dead ?_)
  rw [comp2_turn0]
  refine wpAny_bind (wpAny_standAt (wpAny_bind (wpAny_mono (turn n s hI) (fun r s₁ h₁ => ?_) fun _ _ h' => h')))
  cases r with
  | none => exact wpAny_pure h₁
  | some v =>
    refine wpAny_bind (wpAny_mono h₁ (fun _ s₁' h₁' => ?_) fun _ _ h' => h')
    refine wpAny_bind (wpAny_mono h₁' (fun _ s₂ h₂ => ?_) fun _ _ h' => h')
    refine wpAny_bind (wpAny_mono h₂ (fun x s₃ h₃ => ?_) fun _ _ h' => h')
    refine wpAny_bind (wpAny_standAt (wpAny_bind (wpAny_of_eq (hs x) ?_)))
    refine wpAny_bind (wpAny_holding (wpAny_mono h₃ (fun it' s₄ h₄ => ?_) fun _ _ h' => h'))
    refine wpAny_bind (wpAny_runOwn (h := none) (codeAny_mono (A := A.mark none) (by exact h₄) fun r s' hr => ?_))
    cases r with
    | ok f => exact wpAny_pure ⟨rfl, hr⟩
    | error e => exact hr.elim
theorem codeAny_inner2 {elt t0 i0 t1 i1 : Expr} {scope : Scope} {pos : Pos} {it acc : Value} {env : Env} (I : Nat → Shared → Prop)
    (turn : ∀ n s, I n s → wpAny (model prog w) A (pyNext it) (fun r s₁ => match r with
      | none => R (.ok .next) s₁
      | some v => wpAny (model prog w) A (assign t1 env v) (fun _ s₂ => wpAny (model prog w) A (eval elt env) (fun y s₃ => wpAny (model prog w) A (call (.builtin "list.append") [acc, y]) (fun _ s₄ => ∃ m, m < n ∧ I m s₄) (fun _ _ => False) s₃) (fun _ _ => False) s₂) (fun _ _ => False) s₁) (fun _ _ => False) s)
    (ht : ∀ v, letOwnedTupleGo t1 it v = pure ()) (n : Nat) (h : I n s) :
    codeAny (model prog w) A (.compLoop (comp2 elt t0 i0 t1 i1 scope pos) 1 it acc env) R s := by
  refine codeAny_loop rfl I (fun n s hI => ?_) n h
  show wpAny _ A ((compTurn (comp2 elt t0 i0 t1 i1 scope pos) 1 it acc env).onRaise (fun x => do noteFrame x env; theTreesLotGoes x)) _ _ s
  refine wpAny_onRaise (wpAny_dead ?_)
  rw [comp2_turn1]
  refine wpAny_bind (wpAny_standAt (wpAny_bind (wpAny_mono (turn n s hI) (fun r s₁ h₁ => ?_) fun _ _ h' => h')))
  cases r with
  | none => exact wpAny_pure h₁
  | some v =>
    refine wpAny_bind (wpAny_of_eq (ht v) ?_)
    refine wpAny_bind (wpAny_mono h₁ (fun _ s₂ h₂ => ?_) fun _ _ h' => h')
    exact wpAny_bind (wpAny_bind (wpAny_mono h₂ (fun y s₃ h₃ => wpAny_bind (wpAny_mono h₃ (fun _ s₄ h₄ => wpAny_pure (wpAny_pure ⟨rfl, h₄⟩)) fun _ _ h' => h')) fun _ _ h' => h'))
theorem codeAny_start2 {elt t0 i0 t1 i1 : Expr} {scope : Scope} {pos : Pos} {it acc : Value} {env : Env}
    (h0 : codeAny (model prog w) A (.compLoop (comp2 elt t0 i0 t1 i1 scope pos) 1 it acc env) R s)
    (h : wpAny (model prog w) A (pyIter it) (fun it' s' => codeAny (model prog w) A (.compLoop (comp2 elt t0 i0 t1 i1 scope pos) 1 it' acc env) R s') (fun _ _ => False) s) :
    codeAny (model prog w) A (.compStart (comp2 elt t0 i0 t1 i1 scope pos) 1 it acc env) R s := by
  refine codeAny_of_tree ?_
  show wpAny _ _ ((compStart (comp2 elt t0 i0 t1 i1 scope pos) 1 it acc env).onRaise (fun x => do noteFrame x env; standAt theWindowsPlace)) _ _ s
  refine wpAny_onRaise (wpAny_dead ?_)
  unfold compStart
  show wpAny _ _ (ask >>= _) _ _ s
  refine wpAny_bind (wpAny_askSetting (wpAny_ite ?_))
  split
  · first
      | exact wpAny_bind (wpAny_pure (wpAny_pure (And.intro rfl h0)))
      | exact wpAny_pure (And.intro rfl h0)
  · refine wpAny_bind (wpAny_rule ?_)
    refine wpAny_bind (wpAny_standAt ?_)
    rw [Around.under_of_weight rfl]
    exact wpAny_bind (wpAny_mono h (fun it' s' h' => wpAny_pure (And.intro rfl h')) fun _ _ x => x)
end
end Mine

end
section
open PySem PySem.W PyProof.Rows PySem.Calls PySem.Spec
open PyProof.Rows.LCg
set_option maxRecDepth 100000
namespace Mine
theorem fr_put0 {h₀ h h' : Heap} {L B : Addr} {m : Str → Option Value} (F : Fr h₀ L h m) (hL : B ≠ L) (hB : h₀.get? B = none) (up : ∀ c x, c ≠ B → h.get? c = some x → h'.get? c = some x) : Fr h₀ L h' m :=
  ⟨F.ns.at' fun o e => up L o (Ne.symm hL) e, fun c o e => up c o (fun q => by rw [q, hB] at e; cases e) (F.keep c o e), F.above⟩
structure IsIt (o : Obj) (l : Addr) (i : Nat) : Prop where
  cls : o.cls = .type "list_iterator"
  data : o.data = .fields #[.ref l, .int i 0]
section
variable {prog : Program} {w : World} {A : Around} {E : Value → Shared → Prop} {s : Shared} {h₀ : Heap} {L : Addr} {m : Str → Option Value} {news : List (Addr × Obj)}
theorem step_at {h h' : Heap} {I : Addr} {o o' : Obj} (F : Fr h₀ L h m) (N : News h₀ L h ((I, o) :: news)) (hne : ∀ p ∈ news, p.1 ≠ I) (g : h'.get? I = some o') (hs : ∀ b x, b ≠ I → h.get? b = some x → h'.get? b = some x) :
    Fr h₀ L h' m ∧ News h₀ L h' ((I, o') :: news) := by
  have z := N _ (.head _)
  refine ⟨fr_put0 F z.2.1 z.2.2 hs, fun p hp => ?_⟩
  rcases List.mem_cons.mp hp with rfl | hp
  · exact ⟨g, z.2⟩
  · have y := N p (.tail _ hp)
    exact ⟨hs _ _ (hne p hp) y.1, y.2⟩
noncomputable abbrev listO (items : Array Value) (k : Nat) : Obj := { cls := .type "list", data := .seq items k }
noncomputable def Outer2 (prog : Program) (w : World) (A : Around) (h₀ : Heap) (L : Addr) (m : Str → Option Value) (env : Env) (e t0 i1 : Expr) (scope : Scope) (cl : List (Str × Addr)) (s : Shared) (l : Addr) (items : Array Value) (Fin : List Value → List (Addr × Obj) → Prop) :
    Nat → Nat → List Value → List (Addr × Obj) → (Str → Option Value) → Prop
  | 0, _, ys, news, _ => Fin ys news
  | n + 1, i, ys, news, m₂ => ∀ v I oI C oC D h tk, items[i]? = some v → IsIt oI l (i + 1) → NsObj oC m₂ → Fr h₀ L h m → News h₀ L h ((I, oI) :: (C, oC) :: (D, lst ys) :: news) → Off3 I C D news → ((@Ne Nat I C) ∧ (@Ne Nat I D) ∧ (@Ne Nat C D)) →
      wpAny (model prog w) A (letOwnedTupleGo t0 (.ref I) v) (fun _ s₁ => wpAny (model prog w) A (assign t0 (compEnvC scope cl C env) v) (fun _ s₂ => wpAny (model prog w) A (eval i1 (compEnvC scope cl C env)) (fun x s₃ => wpAny (model prog w) A (pyIter x) (fun it' s₄ =>
        codeAny (model prog w) A (.compStart e 1 it' (.ref D) (compEnvC scope cl C env)) (fun r s₅ => match r with
          | .ok _ => ∃ h' tk' oC' m₂' ys' news', s₅ = { s with heap := h', toks := tk' } ∧ NsObj oC' m₂' ∧ Fr h₀ L h' m ∧ News h₀ L h' ((I, oI) :: (C, oC') :: (D, lst ys') :: news') ∧ Off3 I C D news' ∧ (∃ k, (l, listO items k) ∈ news') ∧ Outer2 prog w A h₀ L m env e t0 i1 scope cl s l items Fin n (i + 1) ys' news' m₂'
          | .error _ => False) s₄) (fun _ _ => False) s₃) (fun _ _ => False) s₂) (fun _ _ => False) s₁) (fun _ _ => False) { s with heap := h, toks := tk }
/-- what holds ahead of a turn of the outer clause -/
inductive OInv (h₀ : Heap) (L : Addr) (m : Str → Option Value) (I C D l : Addr) (items : Array Value) (s₂ : Shared) (Out : Nat → Nat → List Value → List (Addr × Obj) → (Str → Option Value) → Prop) (k : Nat) (s' : Shared) : Prop
  | mk (h' : Heap) (tk i : Nat) (ys : List Value) (oI oC : Obj) (m₂ : Str → Option Value) (news' : List (Addr × Obj)) : s' = { s₂ with heap := h', toks := tk } → i ≤ items.size → k = items.size + 1 - i → IsIt oI l i → NsObj oC m₂ → Fr h₀ L h' m →
    News h₀ L h' ((I, oI) :: (C, oC) :: (D, lst ys) :: news') → Off3 I C D news' → (∃ k, (l, listO items k) ∈ news') → Out (items.size - i) i ys news' m₂ → OInv h₀ L m I C D l items s₂ Out k s'
theorem block2 {env : Env} {elt t0 i0 t1 i1 : Expr} {scope : Scope} {cl : List (Str × Addr)} {pos : Pos} {s₂ : Shared} {I l : Addr} {oI : Obj} {items : Array Value} {k₀ : Nat}
    {Fin : List Value → List (Addr × Obj) → Prop} {RR : Value → Addr → Result → Shared → Prop} (hh : A.handled = none) (hs : ∀ C x, foldedSetIterable i1 (compEnvC scope cl C env) x = pure x)
    (hcell : ∀ y ∈ scope.names, y.2 ≠ .cell) (hkind : scope.kind = .function)
    (F : Fr h₀ L s₂.heap m) (N : News h₀ L s₂.heap ((I, oI) :: news)) (off : ∀ p ∈ news, p.1 ≠ I) (hIt : IsIt oI l 0) (hl : (l, listO items k₀) ∈ news)
    (R : Outer2 prog w A h₀ L m env (comp2 elt t0 i0 t1 i1 scope pos) t0 i1 scope cl s₂ l items Fin items.size 0 [] news (fun _ => none))
    (hRR : ∀ D C h tk m' ys news', Fr h₀ L h m → News h₀ L h ((D, lst ys) :: news') → Off1 D news' → h.Ns C m' → h₀.get? C = none → h₀.get? D = none → C ≠ L → D ≠ L → C ≠ D → (∀ p ∈ news', p.1 ≠ C) → Fin ys news' → RR (.ref D) C (.ok .next) { s₂ with heap := h, toks := tk }) :
    wpAny (model prog w) A (newList []) (fun acc s₃ => wpAny (model prog w) A (newFunctionEnv scope env.globals cl [] env.qual none .none (some env)) (fun cenv s₄ =>
      codeAny (model prog w) A (.compStart (comp2 elt t0 i0 t1 i1 scope pos) 0 (.ref I) acc { cenv with scope := relabel scope env }) (RR acc cenv.locals) s₄) E s₃) E s₂ := by
  have NI := N _ (.head _)
  refine wpAny_newObj_type (wpAny_newFunctionEnv hcell (by intro y hy; simp at hy) (fun h₁ hns₁ hsb₁ => ?_) hkind)
  dsimp only at hns₁ hsb₁ ⊢
  generalize hH2 : s₂.heap.push { cls := .type "list", dict := none, data := .seq ([] : List Value).toArray } = H2 at hns₁ hsb₁ ⊢
  have hC : H2.objs.size = s₂.heap.objs.size + 1 := by rw [← hH2, Heap.size_push]
  have hDC : s₂.heap.objs.size ≠ H2.objs.size := by rw [hC]; exact Nat.ne_of_lt (Nat.lt_succ_self _)
  have below : ∀ b, b < s₂.heap.objs.size → b ≠ H2.objs.size ∧ b ≠ s₂.heap.objs.size := fun b hb => ⟨by rw [hC]; exact Nat.ne_of_lt (Nat.lt_succ_of_lt hb), Nat.ne_of_lt hb⟩
  have hIlt : I < s₂.heap.objs.size := Heap.lt_size NI.1
  have old : ∀ b o, s₂.heap.get? b = some o → h₁.get? b = some o := fun b o e => hsb₁.extBut b o (below b (Heap.lt_size e)).1 (Heap.get?_push_of_some _ (hH2 ▸ Heap.get?_push_of_some _ e))
  have hacc : h₁.get? s₂.heap.objs.size = some (lst []) := hsb₁.extBut _ _ hDC (Heap.get?_push_of_some _ (hH2 ▸ Heap.get?_push_size _ rfl))
  have fresh₀ : ∀ a, s₂.heap.objs.size ≤ a → h₀.get? a = none := fun a ha => MapIt.fresh_none F ha
  have hD₀ : h₀.get? s₂.heap.objs.size = none := fresh₀ _ (Nat.le_refl _)
  have hC₀ : h₀.get? H2.objs.size = none := fresh₀ _ (by rw [hC]; exact Nat.le_succ _)
  have hLlt : L < s₂.heap.objs.size := F.ns.lt
  have hDL : s₂.heap.objs.size ≠ L := Ne.symm (below L hLlt).2
  have hCL : H2.objs.size ≠ L := Ne.symm (below L hLlt).1
  have hCI : I ≠ H2.objs.size := (below I hIlt).1
  have hDI : I ≠ s₂.heap.objs.size := (below I hIlt).2
  have off₀ : Off3 I H2.objs.size s₂.heap.objs.size news := Off3.of fun p hp => ⟨off p hp, (below _ (Heap.lt_size (N p (.tail _ hp)).1)).1, (below _ (Heap.lt_size (N p (.tail _ hp)).1)).2⟩
  obtain ⟨oC, heC, hoC⟩ := ns_obj hns₁
  have loop : ∀ s₃ : Shared, s₃ = { s₂ with heap := h₁, toks := s₂.toks + ([] : List (Str × Value)).length } →
      codeAny (model prog w) A (.compLoop (comp2 elt t0 i0 t1 i1 scope pos) 0 (.ref I) (.ref s₂.heap.objs.size) (compEnvC scope cl H2.objs.size env))
        (RR (.ref s₂.heap.objs.size) H2.objs.size) s₃ := by
    rintro s₃ rfl
    refine codeAny_outer2
      (OInv h₀ L m I H2.objs.size s₂.heap.objs.size l items s₂ (Outer2 prog w A h₀ L m env (comp2 elt t0 i0 t1 i1 scope pos) t0 i1 scope cl s₂ l items Fin)) ?_ (hs _) (items.size + 1)
      ⟨h₁, _, 0, [], oI, oC, _, news, rfl, Nat.zero_le _, rfl, hIt, hoC, F.keeps old, fun p hp => ?_, off₀, ⟨_, hl⟩, R⟩
    · rintro k s' ⟨h', tk, i, ys, oI', oC', m₂, news', rfl, hi, rfl, hIt', hoC', F', N', off', ⟨kl, hl'⟩, R'⟩
      have off3 := off'.mem
      have hlI : l ≠ I := (off3 _ hl').1
      have zI := N' _ (.head _)
      have hIL' : h'.IsListIter I l i := ⟨_, zI.1, hIt'.cls, hIt'.data⟩
      have hLl : h'.IsList l items := ⟨_, (N' _ (.tail _ (.tail _ (.tail _ hl')))).1, rfl, _, rfl⟩
      have neI : ∀ p ∈ (H2.objs.size, oC') :: (s₂.heap.objs.size, lst ys) :: news', p.1 ≠ I := fun p hp => by
        rcases List.mem_cons.mp hp with rfl | hp
        · exact Ne.symm hCI
        · rcases List.mem_cons.mp hp with rfl | hp
          · exact Ne.symm hDI
          · exact (off3 p hp).1
      by_cases hlt : i < items.size
      · obtain ⟨j, hj⟩ : ∃ j, items.size - i = j + 1 := ⟨items.size - i - 1, by omega⟩
        rw [hj] at R'
        refine wpAny_pyNext_list_item hIL' hLl (Array.getElem?_eq_getElem hlt) fun h₂ hit₂ hs₂ => ?_
        obtain ⟨oI2, e2, c2, d2⟩ := hit₂
        obtain ⟨F₂, N₂⟩ := step_at F' N' neI e2 (fun b x hb e => hs₂.extBut b x hb e)
        refine wpAny_mono (R' _ I oI2 H2.objs.size oC' s₂.heap.objs.size h₂ tk (Array.getElem?_eq_getElem hlt) ⟨c2, d2⟩ hoC' F₂ N₂ off' ⟨hCI, hDI, Ne.symm hDC⟩) (fun _ s₁ h₁ => wpAny_mono h₁ (fun _ s₂ h₂ => wpAny_mono h₂ (fun x s₃ h₃ => wpAny_mono h₃ (fun it' s₄ h₄ => codeAny_mono h₄ fun r s₅ hr => ?_) fun _ _ x => x) fun _ _ x => x) fun _ _ x => x) fun _ _ x => x
        cases r with
        | error _ => exact hr
        | ok _ =>
          obtain ⟨h', tk', oC2, m₂', ys', news2, rfl, q1, q2, q3, q4, q5, q6⟩ := hr
          refine ⟨items.size + 1 - (i + 1), by omega, h', tk', i + 1, ys', oI2, oC2, m₂', news2, rfl, hlt, rfl, ⟨c2, d2⟩, q1, q2, q3, q4, q5, ?_⟩
          rw [show items.size - (i + 1) = j by omega]
          exact q6
      · obtain rfl : i = items.size := Nat.le_antisymm hi (Nat.not_lt.mp hlt)
        rw [Nat.sub_self] at R'
        refine wpAny_pyNext_list_end hh hIL' hLl (by simp) fun h₂ he => ?_
        have up : ∀ b x, b ≠ I → h'.get? b = some x → h₂.get? b = some x := fun b x hb e => he b x hb e
        have F₂ := fr_put0 F' zI.2.1 zI.2.2 up
        have N₂ : ∀ p ∈ (H2.objs.size, oC') :: (s₂.heap.objs.size, lst ys) :: news', h₂.get? p.1 = some p.2 ∧ p.1 ≠ L ∧ h₀.get? p.1 = none := fun p hp => ⟨up _ _ (neI p hp) (N' p (.tail _ hp)).1, (N' p (.tail _ hp)).2⟩
        exact hRR _ _ h₂ tk _ ys news' F₂ (fun p hp => N₂ p (.tail _ hp)) off'.one (hoC'.ns (N₂ _ (.head _)).1) hC₀ hD₀ hCL hDL (Ne.symm hDC) (fun p hp => (off3 p hp).2.1) R'
    · rcases List.mem_cons.mp hp with rfl | hp
      · exact ⟨old _ _ NI.1, NI.2⟩
      · rcases List.mem_cons.mp hp with rfl | hp
        · exact ⟨heC, hCL, hC₀⟩
        · rcases List.mem_cons.mp hp with rfl | hp
          · exact ⟨hacc, hDL, hD₀⟩
          · exact ⟨old _ _ (N p (.tail _ hp)).1, (N p (.tail _ hp)).2⟩
  have hl₁ : h₁.IsList l items := ⟨_, old _ _ (N _ (.tail _ hl)).1, rfl, _, rfl⟩
  have hit₁ : h₁.IsListIter I l 0 := ⟨_, old _ _ NI.1, hIt.cls, hIt.data⟩
  exact codeAny_compStart_list (loop _ rfl) ((Walks.list hh I l (off _ hl) items).self 0 _ _ _ ⟨hit₁, hl₁⟩ (loop _ rfl))
end
end Mine

end
section
open PySem PySem.W PyProof.Rows PySem.Calls PySem.Spec
open PyProof.Rows.LCg
set_option maxRecDepth 100000
namespace Mine
section
variable {prog : Program} {w : World} {A : Around} {E : Value → Shared → Prop} {s : Shared} {h₀ : Heap} {L : Addr} {m : Str → Option Value} {env : Env}
/-- the source of the outer clause: a list of the ledger -/
noncomputable def Src2 (prog : Program) (w : World) (A : Around) (h₀ : Heap) (L : Addr) (m : Str → Option Value) (env : Env) (e t0 i1 : Expr) (scope : Scope) (cl : List (Str × Addr)) (Fin : Shared → List Value → List (Addr × Obj) → Prop) (xv : Value) (s₁ : Shared) : Prop :=
  ∃ l items k news, xv = .ref l ∧ Fr h₀ L s₁.heap m ∧ News h₀ L s₁.heap news ∧ (l, listO items k) ∈ news ∧
    ∀ s₂ : Shared, (∃ h, s₂ = { s₁ with heap := h }) → Outer2 prog w A h₀ L m env e t0 i1 scope cl s₂ l items (Fin s₂) items.size 0 [] news (fun _ => none)
theorem ListComp2 {elt t0 i0 t1 i1 : Expr} {scope : Scope} {cl : List (Str × Addr)} {pos : Pos} {Q : Value → Shared → Prop} (_F₀ : Fr h₀ L s.heap m) (hh : A.handled = none)
    (hclos : closureFor scope env = pure cl) (hcell : ∀ y ∈ scope.names, y.2 ≠ .cell) (hkind : scope.kind = .function)
    (hnames : ∀ y ∈ scope.names, y.2 = .local → scope.names.lookup y.1 = some .local) (hs1 : ∀ C x, foldedSetIterable i1 (compEnvC scope cl C env) x = pure x)
    (hs : ∀ x, foldedSetIterable i0 env x = pure x)
    (h : wpAny (model prog w) A (eval i0 env) (Src2 prog w A h₀ L m env (comp2 elt t0 i0 t1 i1 scope pos) t0 i1 scope cl (fun s₂ => FinE h₀ L m s₂ Q)) E s) :
    wpAny (model prog w) A (eval (comp2 elt t0 i0 t1 i1 scope pos) env) Q E s := by
  show wpAny _ _ (comprehension (comp2 elt t0 i0 t1 i1 scope pos) scope env _ (newList []) false (eval i0 env)) Q E s
  refine wpAny_comprehension_free (use := none) rfl hs hclos hkind hnames (wpAny_mono h (fun xv s₁ h₁ => ?_) fun _ _ e => e)
  obtain ⟨l, items, k, news, rfl, F, N, hl, R⟩ := h₁
  have hli : s₁.heap.IsList l items := ⟨_, (N _ hl).1, rfl, _, rfl⟩
  refine wpAny_pyIter_list hli ?_
  have up : ∀ b o, s₁.heap.get? b = some o → (s₁.heap.push { cls := .type "list_iterator", data := .fields #[.ref l, .int 0 0] }).get? b = some o := fun b o e => Heap.get?_push_of_some _ e
  refine block2 hh hs1 hcell hkind (F.keeps up) (MapIt.news_new F (N.grown up) (Nat.le_refl _) (Heap.get?_push_size _ rfl)) (fun p hp => Nat.ne_of_lt (Heap.lt_size (N p hp).1)) ⟨rfl, rfl⟩ hl (R _ ⟨_, rfl⟩) ?_
  intro D C h tk m' ys news' F' N' o1 hn hC₀ hD₀ hCL hDL hCD offC fin
  refine ⟨m', hn, fun h'' hs'' => fin D h'' tk (F'.change hs'' hCL hC₀) (fun p hp => ?_) o1⟩
  refine ⟨hs''.extBut _ _ ?_ (N' p hp).1, (N' p hp).2⟩
  rcases List.mem_cons.mp hp with rfl | hp
  · exact Ne.symm hCD
  · exact offC p hp
theorem Assign_ListComp2 {elt t0 i0 t1 i1 : Expr} {y : Str} {py : Pos} {scope : Scope} {cl : List (Str × Addr)} {pos spos : Pos} {Q : Flow → Shared → Prop} (_F₀ : Fr h₀ L s.heap m) (hLe : env.locals = L) (hh : A.handled = none)
    (hsw : swapsWith (comp2 elt t0 i0 t1 i1 scope pos) (some (.Name y py)) spos.line env = pure true)
    (hclos : closureFor scope env = pure cl) (hcell : ∀ z ∈ scope.names, z.2 ≠ .cell) (hkind : scope.kind = .function)
    (hnames : ∀ z ∈ scope.names, z.2 = .local → scope.names.lookup z.1 = some .local) (hs1 : ∀ C x, foldedSetIterable i1 (compEnvC scope cl C env) x = pure x)
    (hs : ∀ x, foldedSetIterable i0 env x = pure x)
    (hy : env.kindOf y = some .local) (hp : (env.scope.kind == .class || (env.scope.kind == .module && env.locals != env.globals)) = false)
    (h : wpAny (model prog w) A (eval i0 env) (Src2 prog w A h₀ L m env (comp2 elt t0 i0 t1 i1 scope pos) t0 i1 scope cl (fun s₂ => FinA h₀ L m s₂ y Q)) E s) :
    wpAny (model prog w) A (exec (.Assign [.Name y py] (comp2 elt t0 i0 t1 i1 scope pos) spos) env) Q E s := by
  subst hLe
  rw [exec_Assign_Name_used _ _ _ _ hsw]
  refine wpAny_bind (wpAny_standAt (wpAny_bind ?_))
  show wpAny _ A (do let _ ← comprehension (comp2 elt t0 i0 t1 i1 scope pos) scope env _ (newList []) false (eval i0 env) (some (assign (.Name y py) env))) _ _ s
  refine wpAny_bind (wpAny_mono (wpAny_comprehension_free (use := some (assign (.Name y py) env)) (Q := fun _ s' => Q .next s') rfl hs hclos hkind hnames
    (wpAny_mono h (fun xv s₁ h₁ => ?_) fun _ _ e => e)) (fun _ s' hq => wpAny_pure (wpAny_pure hq)) fun _ _ e => e)
  obtain ⟨l, items, k, news, rfl, F, N, hl, R⟩ := h₁
  have hli : s₁.heap.IsList l items := ⟨_, (N _ hl).1, rfl, _, rfl⟩
  refine wpAny_pyIter_list hli ?_
  have up : ∀ b o, s₁.heap.get? b = some o → (s₁.heap.push { cls := .type "list_iterator", data := .fields #[.ref l, .int 0 0] }).get? b = some o := fun b o e => Heap.get?_push_of_some _ e
  refine block2 hh hs1 hcell hkind (F.keeps up) (MapIt.news_new F (N.grown up) (Nat.le_refl _) (Heap.get?_push_size _ rfl)) (fun p hp => Nat.ne_of_lt (Heap.lt_size (N p hp).1)) ⟨rfl, rfl⟩ hl (R _ ⟨_, rfl⟩) ?_
  intro D C h' tk m' ys news' F' N' o1 hn hC₀ hD₀ hCL hDL hCD offC fin
  show wpAny _ A (assign (.Name y py) env (.ref D)) _ _ _
  refine wpAny_assign_Name (wpAny_storeName_local hy F'.ns (fun h₂ hn₂ hs₂ => ?_) hp)
  have hL₀ : h₀.get? env.locals = none := Heap.get?_none_of_le F'.above
  have F₂ : Fr h₀ env.locals h₂ (fun z => if z = y then some (.ref D) else m z) := ⟨hn₂, fun b o e => hs₂.extBut b o (fun q => by rw [q, hL₀] at e; cases e) (F'.keep b o e), F'.above⟩
  refine ⟨m', hn.sameBut hs₂ hCL, fun h'' hs'' => fin D h'' _ (F₂.change hs'' hCL hC₀) (fun p hp => ?_) o1⟩
  have z : h₂.get? p.1 = some p.2 := hs₂.extBut _ _ (N' p hp).2.1 (N' p hp).1
  refine ⟨hs''.extBut _ _ ?_ z, (N' p hp).2⟩
  rcases List.mem_cons.mp hp with rfl | hp
  · exact Ne.symm hCD
  · exact offC p hp
end
end Mine

end
section
open PySem PySem.W PyProof.Rows PySem.Calls PySem.Spec
open PyProof.Rows.LCg
set_option maxRecDepth 100000
namespace Mine
section
variable {prog : Program} {w : World} {A : Around} {E : Value → Shared → Prop} {s : Shared} {h₀ : Heap} {L : Addr} {m : Str → Option Value} {env : Env}
/-- a name of a comprehension's own frame, the frame second in the ledger -/
theorem assign_comp {scope : Scope} {cl : List (Str × Addr)} {x : Str} {px : Pos} {v : Value} {I C : Addr} {oI oC : Obj} {m₂ : Str → Option Value} {news : List (Addr × Obj)} {Q : Unit → Shared → Prop}
    (hx : scope.names.lookup x = some .local) (hkind : scope.kind = .function) (hNs : NsObj oC m₂) (F : Fr h₀ L s.heap m) (N : News h₀ L s.heap ((I, oI) :: (C, oC) :: news)) (hIC : I ≠ C) (hne : ∀ p ∈ news, p.1 ≠ C)
    (h : ∀ h' tk oC', NsObj oC' (fun y => if y = x then some v else m₂ y) → Fr h₀ L h' m → News h₀ L h' ((I, oI) :: (C, oC') :: news) → Q () { s with heap := h', toks := tk }) :
    wpAny (model prog w) A (assign (.Name x px) (compEnvC scope cl C env) v) Q E s := by
  have zC := N _ (.tail _ (.head _))
  refine wpAny_assign_Name (wpAny_storeName_local (lookup_relabel_local hx) (hNs.ns zC.1) (fun h₃ hn₃ hs₃ => ?_) (by simp [compEnvC, relabel, hkind]))
  obtain ⟨oC', heC, hoC⟩ := ns_obj hn₃
  refine h h₃ _ oC' hoC (fr_put0 F zC.2.1 zC.2.2 fun b x hb e => hs₃.extBut b x hb e) fun p hp => ?_
  rcases List.mem_cons.mp hp with rfl | hp
  · have z := N _ (.head _)
    exact ⟨hs₃.extBut _ _ hIC z.1, z.2⟩
  · rcases List.mem_cons.mp hp with rfl | hp
    · exact ⟨heC, zC.2⟩
    · have z := N p (.tail _ (.tail _ hp))
      exact ⟨hs₃.extBut _ _ (hne p hp) z.1, z.2⟩
theorem Outer2.ind {e t0 i1 : Expr} {scope : Scope} {cl : List (Str × Addr)} {l : Addr} {items : Array Value} {Fin : List Value → List (Addr × Obj) → Prop} (P : Nat → Nat → List Value → List (Addr × Obj) → (Str → Option Value) → Prop)
    (zero : ∀ i ys news m₂, P 0 i ys news m₂ → Fin ys news)
    (succ : ∀ n i ys news m₂, P (n + 1) i ys news m₂ → ∀ v I oI C oC D h tk (RR : Result → Shared → Prop), items[i]? = some v → IsIt oI l (i + 1) → NsObj oC m₂ → Fr h₀ L h m → News h₀ L h ((I, oI) :: (C, oC) :: (D, lst ys) :: news) → Off3 I C D news → ((@Ne Nat I C) ∧ (@Ne Nat I D) ∧ (@Ne Nat C D)) →
      (∀ f h' tk' oC' m₂' ys' news', NsObj oC' m₂' → Fr h₀ L h' m → News h₀ L h' ((I, oI) :: (C, oC') :: (D, lst ys') :: news') → Off3 I C D news' → (∃ k, (l, listO items k) ∈ news') → P n (i + 1) ys' news' m₂' → RR (.ok f) { s with heap := h', toks := tk' }) →
      wpAny (model prog w) A (letOwnedTupleGo t0 (.ref I) v) (fun _ s₁ => wpAny (model prog w) A (assign t0 (compEnvC scope cl C env) v) (fun _ s₂ => wpAny (model prog w) A (eval i1 (compEnvC scope cl C env)) (fun x s₃ => wpAny (model prog w) A (pyIter x) (fun it' s₄ =>
        codeAny (model prog w) A (.compStart e 1 it' (.ref D) (compEnvC scope cl C env)) RR s₄) (fun _ _ => False) s₃) (fun _ _ => False) s₂) (fun _ _ => False) s₁) (fun _ _ => False) { s with heap := h, toks := tk }) :
    ∀ n i ys news m₂, P n i ys news m₂ → Outer2 prog w A h₀ L m env e t0 i1 scope cl s l items Fin n i ys news m₂
  | 0, i, ys, news, m₂, h => zero i ys news m₂ h
  | n + 1, i, ys, news, m₂, h => fun v I oI C oC D hp tk a1 a2 a3 a4 a5 a6 a7 =>
    succ n i ys news m₂ h v I oI C oC D hp tk _ a1 a2 a3 a4 a5 a6 a7 fun _ h' tk' oC' m₂' ys' news' b2 b3 b4 b5 b6 b7 => ⟨h', tk', oC', m₂', ys', news', rfl, b2, b3, b4, b5, b6, Outer2.ind P zero succ n (i + 1) ys' news' m₂' b7⟩
end
end Mine

end
local macro_rules | `(tactic| walk_at "none here") => `(tactic| skip)
theorem Join.rstar : True := by
  w_top off
  trivial
section
open PySem PySem.W PyProof.Rows
set_option maxRecDepth 100000
set_option maxHeartbeats 8000000
namespace Mine
open_top hd for PySem.Challenge.rw_pk0009_01
end Mine

end
section
open PySem PySem.W PyProof.Rows PySem.Calls PySem.Spec
set_option maxRecDepth 100000
namespace Mine
/-- a call of the text's def at f: what it hands back, the ledger kept -/
noncomputable def Ctr (w : World) (f : Addr) (vs : List Value) (news : List (Addr × Obj)) (P : Value → List (Addr × Obj) → Prop) : Prop :=
  ∀ (p : Program) (loose : List Str) (mean : ExcName → Option Value) (mg mb : Str → Option Value)
    (dp un : Nat) (gd : Option (List Code)) (cn : Str) (cs : Scope) (a : Addr) (ccd : Value) (cl : List (Str × Addr)) (outer : List Env) (A₀ : Around) (base h₀ : Heap) (L : Addr) (m : Str → Option Value) (s : Shared) (Q E : Value → Shared → Prop),
    Below A₀ base outer h₀ → Fr h₀ L s.heap m → (hd.heap_39 w.params).In h₀ → News h₀ L s.heap news → Top p loose mean mg mb h₀ → cs.kind = .function →
    dp + 3 < recursionLimit → un + 20 < cLine →
    (∀ (v : Value) (h' : Heap) (tk' : Nat) (own : List (Addr × Obj)), P v own → Fr h₀ L h' m → News h₀ L h' (own ++ news) → Q v { s with heap := h', toks := tk' }) →
      wpAny (model PySem.Challenge.rw_pk0009_01.row.prog w) (ktrTop dp un gd cn cs L a ccd cl outer) (call (.ref f) vs) Q E s
end Mine

end
local macro_rules | `(tactic| walk_at "none here") => `(tactic| skip)
theorem Join.rstat : True := by
  w_top off
  trivial
section
open PySem PySem.W PyProof.Rows PySem.Calls PySem.Spec
set_option maxRecDepth 100000
set_option maxHeartbeats 8000000
namespace Mine
theorem ne_of_all_lt {D : Nat} {l : List (Addr × Obj)} (h : ∀ p ∈ l, p.1 < D) : ∀ p ∈ l, p.1 ≠ D := fun p hp => Nat.ne_of_lt (h p hp)
local macro_rules | `(tactic| k_all) => `(tactic| exact ne_of_all_lt (by assumption))
/-- texts that are numbers', one by one -/
structure Texts (ts : List Str) (ns : List Int) : Prop where
  num : ts.map PySem.intText? = ns.map some
  len : ∀ t ∈ ts, t.length ≤ 640
  fit : ∀ n ∈ ns, -99 ≤ n ∧ n ≤ 99
noncomputable abbrev numText (i : Int) : Str := Str.ofString (toString i)
theorem len_numText : ∀ n : Int, -99 ≤ n → n ≤ 99 → (numText n).length ≤ 3 := by
  have h : ∀ k : Nat, k < 199 → (numText ((k : Int) - 99)).length ≤ 3 := by decide +kernel
  intro n h0 h1
  have := h (n + 99).toNat (by omega)
  rwa [show (((n + 99).toNat : Nat) : Int) - 99 = n by omega] at this
theorem sum_len : ∀ ts : List Str, (∀ t ∈ ts, t.length ≤ 3) → (ts.map (·.length)).sum ≤ 3 * ts.length
  | [], _ => by simp
  | t :: ts, h => by
    have h1 := h t (.head _)
    have h2 := sum_len ts fun x hx => h x (.tail _ hx)
    simp only [List.map_cons, List.sum_cons, List.length_cons]
    omega
theorem take_fits {ns : List Int} (h : ∀ n ∈ ns, -99 ≤ n ∧ n ≤ 99) : (((ns.map numText).take 3).map (·.length)).sum + ((ns.map numText).take 3).length ≤ 1048576 := by
  have h1 := sum_len ((ns.map numText).take 3) (fun t ht => by
    obtain ⟨n, hn, rfl⟩ := List.mem_map.mp (List.mem_of_mem_take ht)
    exact len_numText n (h n hn).1 (h n hn).2)
  have h2 : ((ns.map numText).take 3).length ≤ 3 := by rw [List.length_take]; omega
  omega
theorem strs_take {vs : List Value} {ts : List Str} (S : StrsAre vs ts) : ∀ k, StrsAre (vs.take k) (ts.take k) := by
  induction S with
  | nil => intro k; simp only [List.take_nil]; exact .nil
  | cons y u _ ih =>
    intro k
    cases k with
    | zero => exact .nil
    | succ k => exact .cons y u (ih k)
theorem pick3 (vs : List Value) : slicePick vs.toArray none (some 3) none = (vs.take 3).toArray := by
  have e : sliceBounds none (some 3) none vs.toArray.size = (((0 : Nat) : Int), ((min 3 vs.length : Nat) : Int), 1) := by
    unfold sliceBounds
    simp only [Option.getD_none, List.size_toArray]
    refine Prod.ext rfl (Prod.ext ?_ rfl)
    simp
    omega
  rw [kmk_pick_nat _ e, List.drop_zero, Nat.sub_zero, kmk_take_min]
theorem Texts.length {ts : List Str} {ns : List Int} (T : Texts ts ns) : ts.length = ns.length := by simpa using congrArg List.length T.num
theorem Texts.told {ts : List Str} {ns : List Int} {vs : List Value} (T : Texts ts ns) (S : StrsAre vs ts) : MapIt.Told vs.toArray ts.length ns := by
  refine ⟨T.length.symm, fun i hi => ?_, fun n hn => ⟨by have := (T.fit n hn).1; omega, by have := (T.fit n hn).2; omega⟩⟩
  obtain ⟨t, e⟩ := S.get i ts[i] (by simp [hi])
  refine ⟨ts[i], t, by simpa using e, ?_, T.len _ (List.getElem_mem hi)⟩
  have := congrArg (·[i]?) T.num
  simp only [List.getElem?_map] at this
  have hn : i < ns.length := by rw [← T.length]; exact hi
  rw [List.getElem?_eq_getElem hi, List.getElem?_eq_getElem hn] at this
  rw [List.getElem?_eq_getElem hn]
  simpa using this
theorem strs_snoc {vs : List Value} {ts : List Str} {b : Str} {t : Tok} (S : StrsAre vs ts) : StrsAre (vs ++ [.str b t]) (ts ++ [b]) := by
  induction S with
  | nil => exact .cons _ _ .nil
  | cons y u _ ih => exact .cons y u ih
end Mine

end
local macro_rules | `(tactic| walk_at "none here") => `(tactic| skip)
theorem Join.rstau : True := by
  w_top off
  trivial
section
open PySem PySem.W PyProof.Rows PySem.Calls PySem.Spec
set_option maxRecDepth 100000
set_option maxHeartbeats 8000000
namespace Mine
local macro_rules | `(tactic| k_all) => `(tactic| exact ne_of_all_lt (by assumption))
theorem norm_ctr (w : World) (v b : Str) (t t' : Tok) (ns : List Int) (news : List (Addr × Obj)) (hv : v.length ≤ 100) (hb : b.length ≤ 5)
    (hT : Texts (Txt.split v (Str.ofString ".") ++ (if b.length = 0 then [] else [b])) ns) :
    Ctr w 22 [.str v t, .str b t'] news (fun v own => ∃ t2, v = .str (Txt.join (Str.ofString ".") ((ns.map numText).take 3)) t2 ∧ own = []) := by
  unfold Ctr
  k_fill
  intro p loose mean mg mb dp un gd cn cs a ccd cl outer A₀ base h₀ L m s Q E B F X N T hk hdp hun hret
  refine wpAny_call ?_
  k_dflt (refine' code_def ?k1 ?k2 ?k3 ?k4 ?k5 ?kA ?kF ?kK ?k6 ?k7 ?k8 ?k9 ?kB ?_ ?c2 ?c3 ?c4 ?c5; (case kA => exact rfl); (case kF => exact rfl); (case kK => assumption); (case k1 => k_asm); (case k2 => k_asm); (case k3 => k_asm); (case k4 => k_asm); (case k5 => k_asm); (case k6 => k_is); (case k7 => k_is); (case k8 => ktr_room); (case k9 => exact binds_K (by k_in) rfl (by k_is) rfl rfl rfl); (case c5 => decide); (case kB => exact locs rfl); (case c2 => exact rfl); (case c3 => exact rfl); (case c4 => exact rfl); k_whole; intro g' L' h' FG' F' N' B' X' T'; (try dsimp only); (try k_lift B'); (try k_fold))
  have hnw : ∀ p ∈ news, p.1 < h'.objs.size := fun p hp => Heap.lt_size (N' p hp).1
  k_steps
  all_goals (
    (k_dflt (refine' MapIt.mapL_K ?k1 ?k2 ?k3 ?_; (case k1 => k_asm); (case k2 => k_asm); (case k3 => exact News.isList (by k_asm) (by k_mem)); k_whole))
    intro a1 h1 F1 N1 l1 l1L l1l
    k_steps
    (k_dflt (refine' MapIt.mapM_K ?k1 ?k2 ?k3 ?_; (case k1 => k_asm); (case k2 => k_asm); (case k3 => exact News.get (by k_asm) (by k_mem)); k_whole))
    intro a2 h2 F2 N2 l2 l2L
    k_steps)
  · rename List (Str × Tok) => ls
    rename (ls.map _ = _) => hsp
    rename (StrsAre _ _) => hst
    rename ((b.length : Int) ≠ 0) => hne
    have hne' : b.length ≠ 0 := by omega
    have hT' : Texts (ls.map (·.1) ++ [b]) ns := by rw [hsp]; simpa [hne'] using hT
    have hS' : StrsAre ((strValues ls) ++ [Value.str b t']) (ls.map (·.1) ++ [b]) := strs_snoc hst
    have hlen : (ls.map (·.1) ++ [b]).length ≤ 110 := by rw [hsp]; simp; omega
    refine MapIt.listMM_K (ns := ns) (items := ((strValues ls) ++ [Value.str b t']).toArray) rfl F2 N2 ?_ (hT'.told hS') (by rw [List.size_toArray, hS'.length]) (Nat.le_trans hlen (by decide)) (l2 _ (.head _)) (l1 _ (.head _)) l1 ?_
    · have := News.isList N2 (.tail _ (.tail _ (.tail _ (.tail _ (.tail _ (.head _))))))
      simpa using this
    intro D h3 tk3 c3 vs3 F3 N3 l3 S3
    k_steps
    (k_dflt (refine' kmk_slice ?xF ?xN ?xl ?xp ?xq ?_ ?xs ?xt ?xz; (case xF => k_asm); (case xN => k_asm); (case xl => kmk_list); (case xp => kmk_part); (case xq => kmk_part); (case xs => with_unfolding_all rfl); (case xt => kmk_pure); (case xz => (rw [List.size_toArray, S3.length, List.length_map, ← hT'.length, sizeLine_eq]; omega))))
    intro D4 h4 F4 N4 l4
    rw [pick3] at N4
    k_steps
    refine join_listW (News.isList N4 (.head _)) (strs_take S3 3) (by decide +kernel) (take_fits hT.fit) ?_
    intro t5 k5
    k_steps
    exact hret _ _ _ [] ⟨_, rfl, rfl⟩ (by assumption) (cb_drop (by assumption) (fun p hp => .tail _ (.tail _ (.tail _ hp))))
  · rename List (Str × Tok) => ls
    rename (ls.map _ = _) => hsp
    rename (StrsAre _ _) => hst
    rename ((b.length : Int) = 0) => hne
    have hne' : b.length = 0 := by omega
    have hT' : Texts (ls.map (·.1)) ns := by rw [hsp]; simpa [hne'] using hT
    have hlen : (ls.map (·.1)).length ≤ 110 := by rw [hsp]; omega
    refine MapIt.listMM_K (ns := ns) (items := (strValues ls).toArray) rfl F2 N2 ?_ (hT'.told hst) (by rw [List.size_toArray, hst.length]) (Nat.le_trans hlen (by decide)) (l2 _ (.head _)) (l1 _ (.head _)) l1 ?_
    · exact News.isList N2 (.tail _ (.tail _ (.tail _ (.tail _ (.tail _ (.head _))))))
    intro D h3 tk3 c3 vs3 F3 N3 l3 S3
    k_steps
    (k_dflt (refine' kmk_slice ?xF ?xN ?xl ?xp ?xq ?_ ?xs ?xt ?xz; (case xF => k_asm); (case xN => k_asm); (case xl => kmk_list); (case xp => kmk_part); (case xq => kmk_part); (case xs => with_unfolding_all rfl); (case xt => kmk_pure); (case xz => (rw [List.size_toArray, S3.length, List.length_map, ← hT'.length, sizeLine_eq]; omega))))
    intro D4 h4 F4 N4 l4
    rw [pick3] at N4
    k_steps
    refine join_listW (News.isList N4 (.head _)) (strs_take S3 3) (by decide +kernel) (take_fits hT.fit) ?_
    intro t5 k5
    k_steps
    exact hret _ _ _ [] ⟨_, rfl, rfl⟩ (by assumption) (cb_drop (by assumption) (fun p hp => .tail _ (.tail _ (.tail _ hp))))
theorem norm1_ctr (w : World) (v : Str) (t : Tok) (ns : List Int) (news : List (Addr × Obj)) (hv : v.length ≤ 100)
    (hT : Texts (Txt.split v (Str.ofString ".")) ns) :
    Ctr w 22 [.str v t] news (fun v own => ∃ t2, v = .str (Txt.join (Str.ofString ".") ((ns.map numText).take 3)) t2 ∧ own = []) := by
  unfold Ctr
  k_fill
  intro p loose mean mg mb dp un gd cn cs a ccd cl outer A₀ base h₀ L m s Q E B F X N T hk hdp hun hret
  refine wpAny_call ?_
  k_dflt (refine' code_def ?k1 ?k2 ?k3 ?k4 ?k5 ?kA ?kF ?kK ?k6 ?k7 ?k8 ?k9 ?kB ?_ ?c2 ?c3 ?c4 ?c5; (case kA => exact rfl); (case kF => exact rfl); (case kK => assumption); (case k1 => k_asm); (case k2 => k_asm); (case k3 => k_asm); (case k4 => k_asm); (case k5 => k_asm); (case k6 => k_is); (case k7 => k_is); (case k8 => ktr_room); (case k9 => exact binds_K (by k_in) rfl (by k_is) rfl rfl rfl); (case c5 => decide); (case kB => exact locs rfl); (case c2 => exact rfl); (case c3 => exact rfl); (case c4 => exact rfl); k_whole; intro g' L' h' FG' F' N' B' X' T'; (try dsimp only); (try k_lift B'); (try k_fold))
  have hnw : ∀ p ∈ news, p.1 < h'.objs.size := fun p hp => Heap.lt_size (N' p hp).1
  k_steps
  all_goals (
    (k_dflt (refine' MapIt.mapL_K ?k1 ?k2 ?k3 ?_; (case k1 => k_asm); (case k2 => k_asm); (case k3 => exact News.isList (by k_asm) (by k_mem)); k_whole))
    intro a1 h1 F1 N1 l1 l1L l1l
    k_steps
    (k_dflt (refine' MapIt.mapM_K ?k1 ?k2 ?k3 ?_; (case k1 => k_asm); (case k2 => k_asm); (case k3 => exact News.get (by k_asm) (by k_mem)); k_whole))
    intro a2 h2 F2 N2 l2 l2L
    k_steps)
  rename List (Str × Tok) => ls
  rename (ls.map _ = _) => hsp
  rename (StrsAre _ _) => hst
  have hT' : Texts (ls.map (·.1)) ns := by rw [hsp]; exact hT
  have hlen : (ls.map (·.1)).length ≤ 110 := by rw [hsp]; have hle := (fact_split v (Str.ofString ".")).2; omega
  refine MapIt.listMM_K (ns := ns) (items := (strValues ls).toArray) rfl F2 N2 ?_ (hT'.told hst) (by rw [List.size_toArray, hst.length]) (Nat.le_trans hlen (by decide)) (l2 _ (.head _)) (l1 _ (.head _)) l1 ?_
  · exact News.isList N2 (.tail _ (.tail _ (.tail _ (.tail _ (.tail _ (.head _))))))
  intro D h3 tk3 c3 vs3 F3 N3 l3 S3
  k_steps
  (k_dflt (refine' kmk_slice ?xF ?xN ?xl ?xp ?xq ?_ ?xs ?xt ?xz; (case xF => k_asm); (case xN => k_asm); (case xl => kmk_list); (case xp => kmk_part); (case xq => kmk_part); (case xs => with_unfolding_all rfl); (case xt => kmk_pure); (case xz => (rw [List.size_toArray, S3.length, List.length_map, ← hT'.length, sizeLine_eq]; omega))))
  intro D4 h4 F4 N4 l4
  rw [pick3] at N4
  k_steps
  refine join_listW (News.isList N4 (.head _)) (strs_take S3 3) (by decide +kernel) (take_fits hT.fit) ?_
  intro t5 k5
  k_steps
  exact hret _ _ _ [] ⟨_, rfl, rfl⟩ (by assumption) (cb_drop (by assumption) (fun p hp => .tail _ (.tail _ (.tail _ hp))))
end Mine

end
section
open PySem PySem.W PyProof.Rows PySem.Calls PySem.Spec
set_option maxRecDepth 100000
namespace Mine
noncomputable abbrev num (d : Int) : Int := d.fmod 199 - 99
noncomputable abbrev way (d : Int) : Int := d.fdiv 199
noncomputable def signOf (d : Int) : Str := if num d < 0 then Str.ofString "-" else [Str.ofString "", Str.ofString "+", if num d = 0 then Str.ofString "-" else Str.ofString ""].getD ((way d).fmod 3).toNat Str.empty
noncomputable def figs0 (d : Int) : Str := Txt.mul (Str.ofString "0") (((d.fdiv 199).fdiv 3).fmod 2) ++ Str.ofString (toString (if d.fmod 199 - 99 < 0 then -(d.fmod 199 - 99) else d.fmod 199 - 99))
noncomputable def figs (d : Int) : Str := if ((d.fdiv 199).fdiv 6).fmod 2 = 1 ∧ 1 < (figs0 d).length then Txt.slice (figs0 d) none (some (-1)) ++ Str.ofString "_" ++ Txt.slice (figs0 d) (some (-1)) none else figs0 d
noncomputable def room (d : Int) : Int := 5 - ((signOf d ++ figs d).length : Int)
noncomputable def ahead (d : Int) : Int := ((d.fdiv 199).fdiv 12).fmod (room d + 1)
noncomputable def white (d : Int) : Str := if (d.fdiv 199).fdiv 72 = 1 then Str.ofString "\t" else Str.ofString " "
noncomputable def cellText (d : Int) : Str := Txt.mul (white d) (ahead d) ++ signOf d ++ figs d ++ Txt.mul (white d) (room d - ahead d)
structure CellLens (d : Int) : Prop where
  figs : (figs d).length ≤ 4
  room0 : 0 ≤ room d
  room5 : room d ≤ 5
  ahead0 : 0 ≤ ahead d
  ahead5 : ahead d ≤ room d
  wht : (white d).length = 1
  mulA : (Txt.mul (white d) (ahead d)).length ≤ 5
  mulB : (Txt.mul (white d) (room d - ahead d)).length ≤ 5
  zero : (Txt.mul (Str.ofString "0") (((d.fdiv 199).fdiv 3).fmod 2)).length ≤ 1
  abs : (Str.ofString (toString (if d.fmod 199 - 99 < 0 then -(d.fmod 199 - 99) else d.fmod 199 - 99))).length ≤ 2
  figs0 : (figs0 d).length ≤ 3
  sign : (signOf d).length ≤ 1
end Mine

end
section
open PySem PySem.W PyProof.Rows PySem.Calls PySem.Spec
set_option maxRecDepth 100000
namespace Mine
namespace CellP
noncomputable def dig (n : Nat) : Str := ⟨if n < 10 then #[48 + n] else #[48 + n / 10, 48 + n % 10]⟩
theorem dig_eq : ∀ n : Nat, n < 100 → Str.ofString (toString (n : Int)) = dig n := by decide +kernel
noncomputable def sgn (g : Nat) : Str := if g = 0 then Str.ofString "" else if g = 1 then Str.ofString "+" else Str.ofString "-"
noncomputable def f0 (n z : Nat) : Str := (if z = 1 then Str.ofString "0" else Str.empty) ++ dig n
noncomputable def fg (n z u : Nat) : Str := if u = 1 ∧ 1 < (f0 n z).length then Txt.slice (f0 n z) none (some (-1)) ++ Str.ofString "_" ++ Txt.slice (f0 n z) (some (-1)) none else f0 n z
noncomputable def coreOk (n z u g : Nat) : Bool :=
  let f := fg n z u
  let c := (sgn g ++ f).cps.toList
  decide ((f0 n z).length ≤ 3) && decide (f.length ≤ 4) && decide (c.length ≤ 5) && decide (0 < c.length) && c.all (fun x => decide (43 ≤ x) && decide (x < 128) && decide (x ≠ 46)) && decide (PySem.intText? ⟨c.toArray⟩ = some (if g = 2 then -(n : Int) else n))
theorem core_a : ∀ m : Nat, m < 10 → ∀ z : Nat, z < 2 → ∀ u : Nat, u < 2 → ∀ g : Nat, g < 3 → coreOk (0 + m) z u g = true := by decide +kernel
theorem core_b : ∀ m : Nat, m < 10 → ∀ z : Nat, z < 2 → ∀ u : Nat, u < 2 → ∀ g : Nat, g < 3 → coreOk (10 + m) z u g = true := by decide +kernel
theorem core_c : ∀ m : Nat, m < 10 → ∀ z : Nat, z < 2 → ∀ u : Nat, u < 2 → ∀ g : Nat, g < 3 → coreOk (20 + m) z u g = true := by decide +kernel
theorem core_d : ∀ m : Nat, m < 10 → ∀ z : Nat, z < 2 → ∀ u : Nat, u < 2 → ∀ g : Nat, g < 3 → coreOk (30 + m) z u g = true := by decide +kernel
theorem core_e : ∀ m : Nat, m < 10 → ∀ z : Nat, z < 2 → ∀ u : Nat, u < 2 → ∀ g : Nat, g < 3 → coreOk (40 + m) z u g = true := by decide +kernel
theorem core_f : ∀ m : Nat, m < 10 → ∀ z : Nat, z < 2 → ∀ u : Nat, u < 2 → ∀ g : Nat, g < 3 → coreOk (50 + m) z u g = true := by decide +kernel
theorem core_g : ∀ m : Nat, m < 10 → ∀ z : Nat, z < 2 → ∀ u : Nat, u < 2 → ∀ g : Nat, g < 3 → coreOk (60 + m) z u g = true := by decide +kernel
theorem core_h : ∀ m : Nat, m < 10 → ∀ z : Nat, z < 2 → ∀ u : Nat, u < 2 → ∀ g : Nat, g < 3 → coreOk (70 + m) z u g = true := by decide +kernel
theorem core_i : ∀ m : Nat, m < 10 → ∀ z : Nat, z < 2 → ∀ u : Nat, u < 2 → ∀ g : Nat, g < 3 → coreOk (80 + m) z u g = true := by decide +kernel
theorem core_j : ∀ m : Nat, m < 10 → ∀ z : Nat, z < 2 → ∀ u : Nat, u < 2 → ∀ g : Nat, g < 3 → coreOk (90 + m) z u g = true := by decide +kernel
theorem core_all : ∀ n : Nat, n < 100 → ∀ z : Nat, z < 2 → ∀ u : Nat, u < 2 → ∀ g : Nat, g < 3 → coreOk n z u g = true := by
  intro n hn z hz u hu g hg
  have hm : n % 10 < 10 := Nat.mod_lt _ (by decide)
  have e : 10 * (n / 10) + n % 10 = n := Nat.div_add_mod n 10
  have h : ∀ k : Nat, k < 10 → coreOk (10 * k + n % 10) z u g = true := by
    intro k hk
    match k, hk with
    | 0, _ => exact core_a _ hm z hz u hu g hg
    | 1, _ => exact core_b _ hm z hz u hu g hg
    | 2, _ => exact core_c _ hm z hz u hu g hg
    | 3, _ => exact core_d _ hm z hz u hu g hg
    | 4, _ => exact core_e _ hm z hz u hu g hg
    | 5, _ => exact core_f _ hm z hz u hu g hg
    | 6, _ => exact core_g _ hm z hz u hu g hg
    | 7, _ => exact core_h _ hm z hz u hu g hg
    | 8, _ => exact core_i _ hm z hz u hu g hg
    | 9, _ => exact core_j _ hm z hz u hu g hg
  rw [← e]
  exact h (n / 10) (Nat.div_lt_of_lt_mul hn)
end CellP
end Mine

end
section
open PySem PySem.W PyProof.Rows PySem.Calls PySem.Spec
set_option maxRecDepth 100000
namespace Mine
namespace CellP
theorem fmod2 (x : Int) : x.fmod 2 = 0 ∨ x.fmod 2 = 1 := by
  rw [Int.fmod_eq_emod_of_nonneg _ (by omega)]; omega
theorem fmod3 (x : Int) : x.fmod 3 = 0 ∨ x.fmod 3 = 1 ∨ x.fmod 3 = 2 := by
  rw [Int.fmod_eq_emod_of_nonneg _ (by omega)]; omega
theorem num_lo (d : Int) : -99 ≤ num d ∧ num d ≤ 99 := by
  unfold num; rw [Int.fmod_eq_emod_of_nonneg _ (by omega)]; omega
/-- what is drawn of a cell: its number, nought, stroke and sign -/
inductive Facts (d : Int) : Prop
  | mk (n z u g : Nat) : n < 100 → z < 2 → u < 2 → g < 3 → figs0 d = f0 n z → figs d = fg n z u → signOf d = sgn g → num d = (if g = 2 then -(n : Int) else n) →
    (Txt.mul (Str.ofString "0") (((d.fdiv 199).fdiv 3).fmod 2)).length ≤ 1 → (Str.ofString (toString (if d.fmod 199 - 99 < 0 then -(d.fmod 199 - 99) else d.fmod 199 - 99))).length ≤ 2 → Facts d
theorem facts (d : Int) : Facts d := by
  have hn := num_lo d
  have ea : (if d.fmod 199 - 99 < 0 then -(d.fmod 199 - 99) else d.fmod 199 - 99) = (((num d).natAbs : Nat) : Int) := by
    show (if num d < 0 then -(num d) else num d) = _
    split <;> omega
  have ht : Str.ofString (toString (if d.fmod 199 - 99 < 0 then -(d.fmod 199 - 99) else d.fmod 199 - 99)) = dig (num d).natAbs := by
    rw [ea]; exact dig_eq _ (by omega)
  have hl : (dig (num d).natAbs).length ≤ 2 := by
    have h9 : ∀ n : Nat, n < 100 → (dig n).length ≤ 2 := by decide +kernel
    exact h9 _ (by omega)
  have hz : Txt.mul (Str.ofString "0") (((d.fdiv 199).fdiv 3).fmod 2) = (if (((d.fdiv 199).fdiv 3).fmod 2).toNat = 1 then Str.ofString "0" else Str.empty) := by
    rcases fmod2 ((d.fdiv 199).fdiv 3) with e | e <;> rw [e] <;> rfl
  have hz2 : (((d.fdiv 199).fdiv 3).fmod 2).toNat < 2 := by rcases fmod2 ((d.fdiv 199).fdiv 3) with e | e <;> rw [e] <;> decide
  have hu2 : (((d.fdiv 199).fdiv 6).fmod 2).toNat < 2 := by rcases fmod2 ((d.fdiv 199).fdiv 6) with e | e <;> rw [e] <;> decide
  have hf0 : figs0 d = f0 (num d).natAbs (((d.fdiv 199).fdiv 3).fmod 2).toNat := by unfold figs0 f0; rw [ht, hz]
  have hfg : figs d = fg (num d).natAbs (((d.fdiv 199).fdiv 3).fmod 2).toNat (((d.fdiv 199).fdiv 6).fmod 2).toNat := by
    unfold figs fg
    rw [← hf0]
    have e : (((d.fdiv 199).fdiv 6).fmod 2 = 1) ↔ ((((d.fdiv 199).fdiv 6).fmod 2).toNat = 1) := by
      rcases fmod2 ((d.fdiv 199).fdiv 6) with e | e <;> rw [e] <;> decide
    simp only [e]
  have hm1 : (Txt.mul (Str.ofString "0") (((d.fdiv 199).fdiv 3).fmod 2)).length ≤ 1 := by
    rcases fmod2 ((d.fdiv 199).fdiv 3) with e | e <;> rw [e] <;> decide
  have hs : ∃ g : Nat, g < 3 ∧ signOf d = sgn g ∧ num d = (if g = 2 then -((num d).natAbs : Int) else (num d).natAbs) := by
    unfold signOf
    by_cases h : num d < 0
    · refine ⟨2, by decide, ?_, by rw [if_pos rfl]; omega⟩
      rw [if_pos h]; rfl
    · rw [if_neg h]
      rcases fmod3 (way d) with e | e | e
      · exact ⟨0, by decide, by rw [e]; rfl, by rw [if_neg (by decide)]; omega⟩
      · exact ⟨1, by decide, by rw [e]; rfl, by rw [if_neg (by decide)]; omega⟩
      · by_cases h0 : num d = 0
        · exact ⟨2, by decide, by rw [e, if_pos h0]; rfl, by rw [if_pos rfl]; omega⟩
        · exact ⟨0, by decide, by rw [e, if_neg h0]; rfl, by rw [if_neg (by decide)]; omega⟩
  obtain ⟨g, g3, gs, gn⟩ := hs
  exact ⟨_, _, _, g, by omega, hz2, hu2, g3, hf0, hfg, gs, gn, hm1, by rw [ht]; exact hl⟩
open PySem.NumText
theorem drop_rep (w : Nat) (hw : blank w = true) : ∀ (k : Nat) (l : List Nat), (List.replicate k w ++ l).dropWhile blank = l.dropWhile blank
  | 0, _ => rfl
  | k + 1, l => by rw [List.replicate_succ, List.cons_append, List.dropWhile_cons, hw]; exact drop_rep w hw k l
theorem sign_app {x : Nat} (c r : List Nat) : sign (x :: c ++ r) = ((sign (x :: c)).1, (sign (x :: c)).2 ++ r) := by
  by_cases h1 : x = 45
  · subst h1; rfl
  · by_cases h2 : x = 43
    · subst h2; rfl
    · rw [List.cons_append, sign_of h1 h2, sign_of h1 h2]; rfl
theorem core_strip (w a b : Nat) (hw : blank w = true) (x : Nat) (c : List Nat) (hx : 33 ≤ x) : core (List.replicate a w ++ (x :: c) ++ List.replicate b w) = core (x :: c) ∧
    (sign ((List.replicate a w ++ (x :: c) ++ List.replicate b w).dropWhile blank)).1 = (sign ((x :: c).dropWhile blank)).1 := by
  have e : (List.replicate a w ++ (x :: c) ++ List.replicate b w).dropWhile blank = x :: c ++ List.replicate b w := by
    rw [List.append_assoc, drop_rep w hw, List.cons_append, dropWhile_of hx]
  unfold core
  rw [e, sign_app, dropWhile_of hx]
  refine ⟨?_, rfl⟩
  rw [List.reverse_append, List.reverse_replicate, drop_rep w hw]
theorem takeWhile_nz : ∀ {l : List Nat}, (∀ x ∈ l, x ≠ 0) → l.takeWhile (fun x => x != 0) = l := fun h => takeWhile_all fun c hc => bne_iff_ne.mpr (h c hc)
theorem plain (l : List Nat) (h : ∀ x ∈ l, 0 < x ∧ x < 128) : numTextOf ⟨l.toArray⟩ = l ∧ numSeenOf ⟨l.toArray⟩ = l := by
  have e1 : numTextOf ⟨l.toArray⟩ = l := by
    refine if_pos ?_
    rw [← Array.all_toList, List.all_eq_true]
    exact fun c hc => decide_eq_true (h c hc).2
  refine ⟨e1, ?_⟩
  show (numTextOf ⟨l.toArray⟩).takeWhile _ = _
  rw [e1]
  exact takeWhile_nz fun x hx => by have := (h x hx).1; omega
theorem int_strip (w a b : Nat) (hw : blank w = true) (hw1 : 0 < w ∧ w < 128) (x : Nat) (c : List Nat) (hc : ∀ y ∈ x :: c, 33 ≤ y ∧ y < 128) :
    PySem.intText? ⟨(List.replicate a w ++ (x :: c) ++ List.replicate b w).toArray⟩ = PySem.intText? ⟨(x :: c).toArray⟩ := by
  have h1 := plain (x :: c) fun y hy => ⟨by have := (hc y hy).1; omega, (hc y hy).2⟩
  have h2 := plain (List.replicate a w ++ (x :: c) ++ List.replicate b w) fun y hy => by
    rcases List.mem_append.mp hy with hy | hy
    · rcases List.mem_append.mp hy with hy | hy
      · rw [List.eq_of_mem_replicate hy]; exact hw1
      · exact ⟨by have := (hc y hy).1; omega, (hc y hy).2⟩
    · rw [List.eq_of_mem_replicate hy]; exact hw1
  have h3 := core_strip w a b hw x c (hc x (.head _)).1
  unfold PySem.intText?
  rw [h1.1, h1.2, h2.1, h2.2, h3.1, h3.2, beq_self_eq_true, beq_self_eq_true]
end CellP
/-- what a cell is: five signs, none of them a dot, and a number's text -/
structure CellOk (x : Str) (n : Int) : Prop where
  len : x.cps.toList.length = 5
  sig : ∀ c ∈ x.cps.toList, c < 128 ∧ c ≠ 46
  num : PySem.intText? x = some n
  fit : -99 ≤ n ∧ n ≤ 99
open CellP in
theorem cell_ok (d : Int) (_h0 : 0 ≤ d) (_h1 : d < 28656) : CellLens d ∧ CellOk (cellText d) (num d) := by
  obtain ⟨n, z, u, g, hn, hz, hu, hg, e1, e2, e3, e4, e5, e6⟩ := facts d
  have hc := core_all n hn z hz u hu g hg
  unfold coreOk at hc
  simp only [Bool.and_eq_true, decide_eq_true_eq, List.all_eq_true] at hc
  obtain ⟨⟨⟨⟨⟨c1, c2⟩, c3⟩, c4⟩, c5⟩, c6⟩ := hc
  have hsl : (sgn g).length ≤ 1 := by
    have : ∀ g : Nat, g < 3 → (sgn g).length ≤ 1 := by decide +kernel
    exact this g hg
  have hr : room d = 5 - ((sgn g ++ fg n z u).cps.toList.length : Int) := by
    unfold room; rw [e2, e3]; rw [Array.length_toList]; rfl
  have r0 : 0 ≤ room d := by omega
  have r5 : room d ≤ 5 := by omega
  have ha : 0 ≤ ahead d ∧ ahead d ≤ room d := by
    unfold ahead
    rw [Int.fmod_eq_emod_of_nonneg _ (by omega)]
    have q1 := Int.emod_nonneg ((d.fdiv 199).fdiv 12) (show room d + 1 ≠ 0 by omega)
    have q2 := Int.emod_lt_of_pos ((d.fdiv 199).fdiv 12) (show 0 < room d + 1 by omega)
    omega
  obtain ⟨wc, hwc, hw1⟩ : ∃ wc : Nat, (wc = 9 ∨ wc = 32) ∧ white d = ⟨#[wc]⟩ := by
    unfold white
    split
    · exact ⟨9, .inl rfl, by decide +kernel⟩
    · exact ⟨32, .inr rfl, by decide +kernel⟩
  have hmul : ∀ k : Int, 0 ≤ k → k ≤ 5 → Txt.mul (white d) k = ⟨(List.replicate k.toNat wc).toArray⟩ := by
    intro k k0 k5
    rw [hw1]
    have q : k = 0 ∨ k = 1 ∨ k = 2 ∨ k = 3 ∨ k = 4 ∨ k = 5 := by omega
    rcases q with rfl | rfl | rfl | rfl | rfl | rfl <;> rfl
  have hml : ∀ k : Int, 0 ≤ k → k ≤ 5 → (Txt.mul (white d) k).length ≤ 5 := by
    intro k k0 k5
    rw [hmul k k0 k5]
    show (List.replicate k.toNat wc).toArray.size ≤ 5
    rw [List.size_toArray, List.length_replicate]
    omega
  have htx : cellText d = ⟨(List.replicate (ahead d).toNat wc ++ (sgn g ++ fg n z u).cps.toList ++ List.replicate (room d - ahead d).toNat wc).toArray⟩ := by
    unfold cellText
    rw [hmul _ ha.1 (by omega), hmul (room d - ahead d) (by omega) (by omega), e2, e3]
    show Str.mk (((_ ++ (sgn g).cps) ++ (fg n z u).cps) ++ _) = _
    congr 1
    show _ = (List.replicate (ahead d).toNat wc ++ ((sgn g).cps ++ (fg n z u).cps).toList ++ List.replicate (room d - ahead d).toNat wc).toArray
    simp
  refine ⟨⟨by rw [e2]; exact c2, r0, r5, ha.1, ha.2, by rw [hw1]; rfl, hml _ ha.1 (by omega), hml _ (by omega) (by omega), e5, e6, by rw [e1]; exact c1, by rw [e3]; exact hsl⟩, ?_⟩
  have hlt : (cellText d).cps.toList = List.replicate (ahead d).toNat wc ++ (sgn g ++ fg n z u).cps.toList ++ List.replicate (room d - ahead d).toNat wc := by rw [htx]
  refine ⟨?_, ?_, ?_, num_lo d⟩
  · rw [hlt, List.length_append, List.length_append, List.length_replicate, List.length_replicate]
    omega
  · rw [hlt]
    intro c hc
    rcases List.mem_append.mp hc with hc | hc
    · rcases List.mem_append.mp hc with hc | hc
      · rw [List.eq_of_mem_replicate hc]; rcases hwc with rfl | rfl <;> decide
      · have := c5 c hc; exact ⟨this.1.2, this.2⟩
    · rw [List.eq_of_mem_replicate hc]; rcases hwc with rfl | rfl <;> decide
  · rw [htx, e4, ← c6]
    generalize hcc : (sgn g ++ fg n z u).cps.toList = cc at *
    cases cc with
    | nil => simp at c4
    | cons x c =>
      exact int_strip wc _ _ (by rcases hwc with rfl | rfl <;> decide) (by rcases hwc with rfl | rfl <;> decide) x c fun y hy => by have := c5 y hy; exact ⟨by omega, this.1.2⟩
end Mine

end
section
open PySem PySem.W PyProof.Rows PySem.Calls PySem.Spec
set_option maxRecDepth 100000
namespace Mine
theorem cut_at (c : Nat) : ∀ (x x' r r' : List Nat), c ∉ x → c ∉ x' → x ++ c :: r = x' ++ c :: r' → x = x' ∧ r = r'
  | [], [], _, _, _, _, h => ⟨rfl, (List.cons.inj h).2⟩
  | [], b :: _, _, _, _, hb, h => absurd (List.cons.inj h).1 (fun e => hb (e ▸ .head _))
  | a :: _, [], _, _, ha, _, h => absurd (List.cons.inj h).1 (fun e => ha (e ▸ .head _))
  | a :: x, b :: x', r, r', ha, hb, h => by
    obtain ⟨e1, e2⟩ := List.cons.inj h
    obtain ⟨e3, e4⟩ := cut_at c x x' r r' (fun q => ha (.tail _ q)) (fun q => hb (.tail _ q)) e2
    exact ⟨by rw [e1, e3], e4⟩
theorem cut_none (c : Nat) (x x' r : List Nat) (hx : c ∉ x) (h : x = x' ++ c :: r) : False := hx (h ▸ List.mem_append_right _ (.head _))
noncomputable abbrev dot : Str := ⟨#[46]⟩
theorem join_one (x : Str) : Str.join dot [x] = x := rfl
theorem join_more (x y : Str) (r : List Str) : (Str.join dot (x :: y :: r)).cps.toList = x.cps.toList ++ 46 :: (Str.join dot (y :: r)).cps.toList := by
  show ((x ++ dot) ++ Str.join dot (y :: r)).cps.toList = _
  show ((x.cps ++ #[46]) ++ (Str.join dot (y :: r)).cps).toList = _
  simp
theorem join_inj : ∀ (l l' : List Str), l ≠ [] → l' ≠ [] → (∀ p ∈ l, 46 ∉ p.cps.toList) → (∀ p ∈ l', 46 ∉ p.cps.toList) → Str.join dot l = Str.join dot l' → l = l'
  | [], _, h, _, _, _, _ => absurd rfl h
  | _, [], _, h, _, _, _ => absurd rfl h
  | [x], [y], _, _, _, _, h => by rw [join_one, join_one] at h; rw [h]
  | [x], y :: z :: r, _, _, hx, _, h => (cut_none 46 _ _ _ (hx x (.head _)) ((congrArg (fun s : Str => s.cps.toList) h).trans (join_more y z r))).elim
  | x :: z :: r, [y], _, _, _, hy, h => (cut_none 46 _ _ _ (hy y (.head _)) ((congrArg (fun s : Str => s.cps.toList) h.symm).trans (join_more x z r))).elim
  | x :: z :: r, y :: z' :: r', _, _, hx, hy, h => by
    have e := congrArg (fun s : Str => s.cps.toList) h
    simp only [join_more] at e
    obtain ⟨e1, e2⟩ := cut_at 46 _ _ _ _ (hx x (.head _)) (hy y (.head _)) e
    have e3 : x = y := by
      cases x; cases y; congr 1; exact Array.toList_inj.mp e1
    have e4 : Str.join dot (z :: r) = Str.join dot (z' :: r') := by
      generalize Str.join dot (z :: r) = u at *
      generalize Str.join dot (z' :: r') = v at *
      cases u; cases v; congr 1; exact Array.toList_inj.mp e2
    rw [e3, join_inj (z :: r) (z' :: r') (by simp) (by simp) (fun p hp => hx p (.tail _ hp)) (fun p hp => hy p (.tail _ hp)) e4]
theorem dot_eq : Str.ofString "." = dot := by decide +kernel
theorem split_join (l : List Str) (hl : l ≠ []) (hf : ∀ p ∈ l, 46 ∉ p.cps.toList) : Txt.split (Txt.join (Str.ofString ".") l) (Str.ofString ".") = l := by
  rw [dot_eq]
  have e : Txt.join dot l = Str.join dot l := StrLaws.glued_eq_join dot l
  rw [e]
  refine join_inj _ _ ?_ hl (fun p hp => StrLaws.split_free _ 46 p hp) hf (StrLaws.join_split _ _)
  intro q
  have := (fact_split (Str.join dot l) dot).1
  rw [q] at this
  cases this
theorem CellOk.free {x : Str} {n : Int} (c : CellOk x n) : 46 ∉ x.cps.toList := fun h => (c.sig 46 h).2 rfl
theorem num_free : ∀ n : Int, -99 ≤ n → n ≤ 99 → 46 ∉ (Str.ofString (toString n)).cps.toList := by
  have h : ∀ k : Nat, k < 199 → 46 ∉ (Str.ofString (toString ((k : Int) - 99))).cps.toList := by decide +kernel
  intro n h0 h1
  have := h (n + 99).toNat (by omega)
  rwa [show (((n + 99).toNat : Nat) : Int) - 99 = n by omega] at this
theorem add_join (x y : Str) : x ++ Str.ofString "." ++ y = Txt.join (Str.ofString ".") [x, y] := rfl
end Mine

end
local macro_rules | `(tactic| walk_at "none here") => `(tactic| skip)
theorem Join.rstaz : True := by
  w_top off
  trivial
section
open PySem PySem.W PyProof.Rows PySem.Calls PySem.Spec
set_option maxRecDepth 100000
set_option maxHeartbeats 8000000
namespace Mine
local macro_rules | `(tactic| k_all) => `(tactic| exact ne_of_all_lt (by assumption))
/-- the contract's form, with more room asked for -/
noncomputable def Ctr2 (w : World) (f : Addr) (vs : List Value) (news : List (Addr × Obj)) (P : Value → List (Addr × Obj) → Prop) : Prop :=
  ∀ (p : Program) (loose : List Str) (mean : ExcName → Option Value) (mg mb : Str → Option Value)
    (dp un : Nat) (gd : Option (List Code)) (cn : Str) (cs : Scope) (a : Addr) (ccd : Value) (cl : List (Str × Addr)) (outer : List Env) (A₀ : Around) (base h₀ : Heap) (L : Addr) (m : Str → Option Value) (s : Shared) (Q E : Value → Shared → Prop),
    Below A₀ base outer h₀ → Fr h₀ L s.heap m → (hd.heap_39 w.params).In h₀ → News h₀ L s.heap news → Top p loose mean mg mb h₀ → cs.kind = .function →
    dp + 10 < recursionLimit → un + 60 < cLine →
    (∀ (v : Value) (h' : Heap) (tk' : Nat) (own : List (Addr × Obj)), P v own → Fr h₀ L h' m → News h₀ L h' (own ++ news) → Q v { s with heap := h', toks := tk' }) →
      wpAny (model PySem.Challenge.rw_pk0009_01.row.prog w) (ktrTop dp un gd cn cs L a ccd cl outer) (call (.ref f) vs) Q E s
theorem all2 {α : Type} {P : α → Prop} {a b : α} (h0 : P a) (h1 : P b) : ∀ x ∈ [a, b], P x := fun x hx => by
  rcases List.mem_cons.mp hx with rfl | hx
  · exact h0
  · rw [List.mem_singleton.mp hx]; exact h1
theorem all3 {α : Type} {P : α → Prop} {a b c : α} (h0 : P a) (h1 : P b) (h2 : P c) : ∀ x ∈ [a, b, c], P x := fun x hx => by
  rcases List.mem_cons.mp hx with rfl | hx
  · exact h0
  · exact all2 h1 h2 x hx
theorem all4 {α : Type} {P : α → Prop} {a b c d : α} (h0 : P a) (h1 : P b) (h2 : P c) (h3 : P d) : ∀ x ∈ [a, b, c, d], P x := fun x hx => by
  rcases List.mem_cons.mp hx with rfl | hx
  · exact h0
  · exact all3 h1 h2 h3 x hx
theorem mem_skip {α : Type} {a b p : α} {l : List α} (h : p ∈ [a] ++ l) : p ∈ a :: b :: l := by
  rcases List.mem_cons.mp h with rfl | h
  · exact .head _
  · exact .tail _ (.tail _ h)
theorem news_lt {h₀ h : Heap} {L : Addr} {l : List (Addr × Obj)} (N : News h₀ L h l) : ∀ p ∈ l, p.1 < h.objs.size := fun p hp => Heap.lt_size (N p hp).1
theorem len_join3 (x y z : Str) (hx : x.length ≤ 5) (hy : y.length ≤ 5) (hz : z.length ≤ 5) : (Txt.join (Str.ofString ".") [x, y, z]).length ≤ 100 := by
  rw [dot_eq]
  have e : Txt.join dot [x, y, z] = Str.join dot [x, y, z] := StrLaws.glued_eq_join dot _
  rw [e]
  show ((x ++ dot) ++ ((y ++ dot) ++ z)).length ≤ 100
  have z1 : dot.length = 1 := rfl
  rw [Str.length_append, Str.length_append, Str.length_append, Str.length_append, z1]
  omega
theorem len_join4 (x y z u : Str) (hx : x.length ≤ 5) (hy : y.length ≤ 5) (hz : z.length ≤ 5) (hu : u.length ≤ 5) : (Txt.join (Str.ofString ".") [x, y, z, u]).length ≤ 100 := by
  rw [dot_eq]
  have e : Txt.join dot [x, y, z, u] = Str.join dot [x, y, z, u] := StrLaws.glued_eq_join dot _
  rw [e]
  show ((x ++ dot) ++ ((y ++ dot) ++ ((z ++ dot) ++ u))).length ≤ 100
  have z1 : dot.length = 1 := rfl
  rw [Str.length_append, Str.length_append, Str.length_append, Str.length_append, Str.length_append, Str.length_append, z1]
  omega
theorem three_ctr (w : World) (l : Addr) (x0 x1 x2 x3 : Str) (n0 n1 n2 n3 : Int) (t0 t1 t2 t3 : Tok) (c : Nat) (turn : Int) (tt : Tok) (news : List (Addr × Obj))
    (c0 : CellOk x0 n0) (c1 : CellOk x1 n1) (c2 : CellOk x2 n2) (c3 : CellOk x3 n3) (ht : 1 ≤ turn ∧ turn ≤ 24) :
    Ctr2 w 53 [.ref l, .int turn tt] ((l, W.listOf #[.str x0 t0, .str x1 t1, .str x2 t2, .str x3 t3] c) :: news) (fun r own => ∃ D vs c', r = .ref D ∧ own = [(D, W.listOf vs.toArray c')] ∧ StrsAre vs [numText n0, numText n1, numText n2] ∧ ∀ p ∈ (l, W.listOf #[.str x0 t0, .str x1 t1, .str x2 t2, .str x3 t3] c) :: news, p.1 < D) := by
  unfold Ctr2
  k_fill
  intro p loose mean mg mb dp un gd cn cs a ccd cl outer A₀ base h₀ L m s Q E B F X N T hk hdp hun hret
  refine wpAny_call ?_
  k_dflt (refine' code_def (binds := [(Str.ofString "cells", .ref l), (Str.ofString "turn", .int turn tt)]) ?k1 ?k2 ?k3 ?k4 ?k5 ?kA ?kF ?kK ?k6 ?k7 ?k8 ?k9 ?kB ?_ ?c2 ?c3 ?c4 ?c5; (case kA => exact rfl); (case kF => exact rfl); (case kK => assumption); (case k1 => k_asm); (case k2 => k_asm); (case k3 => k_asm); (case k4 => k_asm); (case k5 => k_asm); (case k6 => k_is); (case k7 => k_is); (case k8 => ktr_room); (case k9 => exact BindsTo.of_eq rfl); (case c5 => decide); (case kB => exact locs rfl); (case c2 => exact rfl); (case c3 => exact rfl); (case c4 => exact rfl); k_whole; intro g' L' h' FG' F' N' B' X' T'; (try dsimp only); (try k_lift B'); (try k_fold))
  have hnw : ∀ p ∈ (l, W.listOf #[.str x0 t0, .str x1 t1, .str x2 t2, .str x3 t3] c) :: news, p.1 < h'.objs.size := fun p hp => Heap.lt_size (N' p hp).1
  have y0 : x0.length ≤ 5 := Nat.le_of_eq (by rw [← c0.len, Array.length_toList]; rfl)
  have y1 : x1.length ≤ 5 := Nat.le_of_eq (by rw [← c1.len, Array.length_toList]; rfl)
  have y2 : x2.length ≤ 5 := Nat.le_of_eq (by rw [← c2.len, Array.length_toList]; rfl)
  have y3 : x3.length ≤ 5 := Nat.le_of_eq (by rw [← c3.len, Array.length_toList]; rfl)
  have tx : ∀ {ts : List Str} {ns : List Int}, ts.map PySem.intText? = ns.map some → (∀ t ∈ ts, t.length ≤ 5) → (∀ n ∈ ns, -99 ≤ n ∧ n ≤ 99) → Texts ts ns := fun a b d => ⟨a, fun t ht => Nat.le_trans (b t ht) (by decide), d⟩
  have fit4 : ∀ n ∈ [n0, n1, n2, n3], -99 ≤ n ∧ n ≤ 99 := all4 c0.fit c1.fit c2.fit c3.fit
  have fit3 : ∀ n ∈ [n0, n1, n2], -99 ≤ n ∧ n ≤ 99 := all3 c0.fit c1.fit c2.fit
  have len4 : ∀ x ∈ [x0, x1, x2, x3], x.length ≤ 5 := all4 y0 y1 y2 y3
  have len3 : ∀ x ∈ [x0, x1, x2], x.length ≤ 5 := all3 y0 y1 y2
  have num4 : [x0, x1, x2, x3].map PySem.intText? = [n0, n1, n2, n3].map some := by simp only [List.map_cons, List.map_nil, c0.num, c1.num, c2.num, c3.num]
  have num3 : [x0, x1, x2].map PySem.intText? = [n0, n1, n2].map some := by simp only [List.map_cons, List.map_nil, c0.num, c1.num, c2.num]
  have n2' : x2.length ≠ 0 := by have := c2.len; rw [Array.length_toList] at this; show x2.cps.size ≠ 0; omega
  have n3' : x3.length ≠ 0 := by have := c3.len; rw [Array.length_toList] at this; show x3.cps.size ≠ 0; omega
  have frn : ∀ x ∈ [numText n0, numText n1, numText n2], 46 ∉ x.cps.toList := all3 (num_free _ c0.fit.1 c0.fit.2) (num_free _ c1.fit.1 c1.fit.2) (num_free _ c2.fit.1 c2.fit.2)
  have sp3 := split_join [numText n0, numText n1, numText n2] (by simp) frn
  k_steps
  · have hT : Texts (Txt.split (x0 ++ Str.ofString "." ++ x1) (Str.ofString ".") ++ (if x2.length = 0 then [] else [x2])) [n0, n1, n2] := by
      rw [add_join, split_join [x0, x1] (by simp) (all2 c0.free c1.free), if_neg n2']
      exact tx num3 len3 fit3
    have hv : (x0 ++ Str.ofString "." ++ x1).length ≤ 100 := by
      have z : Str.length (Str.ofString ".") = 1 := by decide +kernel
      omega
    refine' norm_ctr w _ x2 _ t2 [n0, n1, n2] _ hv y2 hT p loose mean mg mb (dp + 1) (un + 3) gd _ _ _ _ [] _ _ _ g' L' _ _ _ _ B' ?kF X' ?kN T' ?kk ?kd ?ku ?_
    (case kk => rfl); (case kF => assumption); (case kN => assumption); (case kd => omega); (case ku => omega)
    rintro v9 h9 tk9 own9 ⟨t9, rfl, rfl⟩ F9 N9
    dsimp only [List.nil_append] at N9
    have hX := len_join3 (numText n0) (numText n1) (numText n2) (Nat.le_trans (len_numText n0 c0.fit.1 c0.fit.2) (by decide)) (Nat.le_trans (len_numText n1 c1.fit.1 c1.fit.2) (by decide)) (Nat.le_trans (len_numText n2 c2.fit.1 c2.fit.2) (by decide))
    have hw9 := news_lt N9
    rw [show List.take 3 (List.map numText [n0, n1, n2]) = [numText n0, numText n1, numText n2] from rfl]
    generalize Txt.join (Str.ofString ".") [numText n0, numText n1, numText n2] = XX at sp3 hX ⊢
    k_steps
    rename List (Str × Tok) => ls
    rename (ls.map _ = Txt.split XX _) => hsp
    rename (StrsAre _ _) => hst
    rw [hsp, sp3] at hst
    exact hret _ _ _ [_] ⟨_, _, _, rfl, rfl, hst, hw9⟩ (by assumption) (by assumption)
  · have hT : Texts (Txt.split (Txt.join (Str.ofString ".") [x0, x1, x2, x3]) (Str.ofString ".")) [n0, n1, n2, n3] := by
      rw [split_join [x0, x1, x2, x3] (by simp) (all4 c0.free c1.free c2.free c3.free)]
      exact tx num4 len4 fit4
    have hv : (Txt.join (Str.ofString ".") [x0, x1, x2, x3]).length ≤ 100 := len_join4 _ _ _ _ y0 y1 y2 y3
    refine' norm1_ctr w _ _ [n0, n1, n2, n3] _ hv hT p loose mean mg mb (dp + 1) (un + 3) gd _ _ _ _ [] _ _ _ g' L' _ _ _ _ B' ?kF X' ?kN T' ?kk ?kd ?ku ?_
    (case kk => rfl); (case kF => assumption); (case kN => assumption); (case kd => omega); (case ku => omega)
    rintro v9 h9 tk9 own9 ⟨t9, rfl, rfl⟩ F9 N9
    dsimp only [List.nil_append] at N9
    have hX := len_join3 (numText n0) (numText n1) (numText n2) (Nat.le_trans (len_numText n0 c0.fit.1 c0.fit.2) (by decide)) (Nat.le_trans (len_numText n1 c1.fit.1 c1.fit.2) (by decide)) (Nat.le_trans (len_numText n2 c2.fit.1 c2.fit.2) (by decide))
    have hw9 := news_lt N9
    rw [show List.take 3 (List.map numText [n0, n1, n2, n3]) = [numText n0, numText n1, numText n2] from rfl]
    generalize Txt.join (Str.ofString ".") [numText n0, numText n1, numText n2] = XX at sp3 hX ⊢
    k_steps
    rename List (Str × Tok) => ls
    rename (ls.map _ = Txt.split XX _) => hsp
    rename (StrsAre _ _) => hst
    rw [hsp, sp3] at hst
    exact hret _ _ _ [_] ⟨_, _, _, rfl, rfl, hst, hw9⟩ (by assumption) (by assumption)
  · have hT : Texts (Txt.split (Txt.join (Str.ofString ".") [x0, x1, x2]) (Str.ofString ".") ++ (if x3.length = 0 then [] else [x3])) [n0, n1, n2, n3] := by
      rw [split_join [x0, x1, x2] (by simp) (all3 c0.free c1.free c2.free), if_neg n3']
      exact tx num4 len4 fit4
    have hv : (Txt.join (Str.ofString ".") [x0, x1, x2]).length ≤ 100 := len_join3 _ _ _ y0 y1 y2
    refine' norm_ctr w _ x3 _ t3 [n0, n1, n2, n3] _ hv y3 hT p loose mean mg mb (dp + 1) (un + 3) gd _ _ _ _ [] _ _ _ g' L' _ _ _ _ B' ?kF X' ?kN T' ?kk ?kd ?ku ?_
    (case kk => rfl); (case kF => assumption); (case kN => assumption); (case kd => omega); (case ku => omega)
    rintro v9 h9 tk9 own9 ⟨t9, rfl, rfl⟩ F9 N9
    dsimp only [List.nil_append] at N9
    have hX := len_join3 (numText n0) (numText n1) (numText n2) (Nat.le_trans (len_numText n0 c0.fit.1 c0.fit.2) (by decide)) (Nat.le_trans (len_numText n1 c1.fit.1 c1.fit.2) (by decide)) (Nat.le_trans (len_numText n2 c2.fit.1 c2.fit.2) (by decide))
    have hw9 := news_lt N9
    rw [show List.take 3 (List.map numText [n0, n1, n2, n3]) = [numText n0, numText n1, numText n2] from rfl]
    generalize Txt.join (Str.ofString ".") [numText n0, numText n1, numText n2] = XX at sp3 hX ⊢
    k_steps
    rename List (Str × Tok) => ls
    rename (ls.map _ = Txt.split XX _) => hsp
    rename (StrsAre _ _) => hst
    rw [hsp, sp3] at hst
    exact hret _ _ _ [_] ⟨_, _, _, rfl, rfl, hst, fun p hp => hw9 p (.tail _ hp)⟩ (by assumption) (cb_drop (by assumption) (fun p hp => mem_skip hp))
end Mine

end
section
open PySem PySem.W PyProof.Rows PySem.Calls PySem.Spec
open PyProof.Rows.LCg
set_option maxRecDepth 100000
namespace Mine
inductive WaysAt (news : List (Addr × Obj)) : List Value → List (List Int) → Prop
  | nil : WaysAt news [] []
  | cons {a : Addr} {vals : List Value} {c : Nat} {ws : List Int} {ys : List Value} {wss : List (List Int)} : (a, listO vals.toArray c) ∈ news → IntsAre vals ws → WaysAt news ys wss → WaysAt news (.ref a :: ys) (ws :: wss)
theorem WaysAt.mono {news news' : List (Addr × Obj)} (hs : ∀ p ∈ news, p ∈ news') : ∀ {ys : List Value} {wss : List (List Int)}, WaysAt news ys wss → WaysAt news' ys wss
  | _, _, .nil => .nil
  | _, _, .cons h i r => .cons (hs _ h) i (r.mono hs)
theorem WaysAt.snoc {news : List (Addr × Obj)} {a : Addr} {vals : List Value} {c : Nat} {ws : List Int} (h : (a, listO vals.toArray c) ∈ news) (i : IntsAre vals ws) : ∀ {ys : List Value} {wss : List (List Int)}, WaysAt news ys wss → WaysAt news (ys ++ [.ref a]) (wss ++ [ws])
  | _, _, .nil => .cons h i .nil
  | _, _, .cons h' i' r => .cons h' i' (r.snoc h i)
theorem WaysAt.length {news : List (Addr × Obj)} : ∀ {ys : List Value} {wss : List (List Int)}, WaysAt news ys wss → ys.length = wss.length
  | _, _, .nil => rfl
  | _, _, .cons _ _ r => congrArg (· + 1) r.length
theorem WaysAt.get {news : List (Addr × Obj)} : ∀ {ys : List Value} {wss : List (List Int)}, WaysAt news ys wss → ∀ (j : Nat) (v : Value), ys[j]? = some v → ∃ a vals c ws, v = .ref a ∧ (a, listO (List.toArray vals) c) ∈ news ∧ IntsAre vals ws ∧ wss[j]? = some ws
  | _, _, .nil, j, v, e => by simp at e
  | _, _, .cons h i r, 0, v, e => by cases e; exact ⟨_, _, _, _, rfl, h, i, rfl⟩
  | _, _, .cons h i r, j + 1, v, e => by
    obtain ⟨a, vals, c, ws, e1, e2, e3, e4⟩ := r.get j v (by simpa using e)
    exact ⟨a, vals, c, ws, e1, e2, e3, by simpa using e4⟩
noncomputable def insOne (k : Nat) (w : List Int) : List (List Int) := (List.range (k + 1)).map fun i => w.take i ++ (k : Int) :: w.drop i
noncomputable def insAll (k : Nat) (wss : List (List Int)) : List (List Int) := wss.flatMap (insOne k)
noncomputable def waysOf : Nat → List (List Int)
  | 0 => [[]]
  | k + 1 => insAll k (waysOf k)
theorem insAll_take (k : Nat) (wss : List (List Int)) (i : Nat) (w : List Int) (h : wss[i]? = some w) : insAll k (wss.take (i + 1)) = insAll k (wss.take i) ++ insOne k w := by
  unfold insAll
  rw [List.take_add_one, h]
  simp
end Mine

end
section
open PySem PySem.W PyProof.Rows PySem.Calls
set_option maxRecDepth 100000
namespace Mine
/-! A post that is put out of sight: a walk under it is a far smaller term. -/
theorem hide {α : Type} {M : Model} {A : Around} {E : Value → Shared → Prop} {s : Shared} {t : Sem α} {Q : α → Shared → Prop} (h : ∀ Q' : α → Shared → Prop, (∀ a s', Q a s' → Q' a s') → wpAny M A t Q' E s) : wpAny M A t Q E s := h Q fun _ _ x => x
theorem hideC {α : Type} {M : Model} {A : Around} {E : Value → Shared → Prop} {s : Shared} {t : Sem α} {Q : α → Shared → Prop} (h : ∀ Q' : α → Shared → Prop, (∀ a s', Q a s' → Q' a s') → wpC M A t Q' E s) : wpC M A t Q E s := h Q fun _ _ x => x
theorem hide_code {M : Model} {A : Around} {c : Code} {s : Shared} {R : Result → Shared → Prop} (h : ∀ R' : Result → Shared → Prop, (∀ a s', R a s' → R' a s') → codeAny M A c R' s) : codeAny M A c R s := h R fun _ _ x => x
theorem mid {α : Type} {M : Model} {A : Around} {E : Value → Shared → Prop} {s : Shared} {t : Sem α} {Q : α → Shared → Prop} (P : α → Shared → Prop)
    (h1 : ∀ Q' : α → Shared → Prop, (∀ a s', P a s' → Q' a s') → wpAny M A t Q' E s) (h2 : ∀ a s', P a s' → Q a s') : wpAny M A t Q E s := h1 Q h2
end Mine

end
section
open PySem PySem.W PyProof.Rows PySem.Calls PySem.Spec
open PyProof.Rows.LCg
set_option maxRecDepth 100000
namespace Mine
/-- the lines stop here -/
noncomputable def Halt (P : Prop) : Prop := P
section
variable {prog : Program} {w : World} {A : Around} {s : Shared} {h₀ : Heap} {L : Addr} {m : Str → Option Value} {env : Env} {R : Result → Shared → Prop}
/-- what holds ahead of a turn of the inner clause over a range -/
inductive IRInv (h₀ : Heap) (L : Addr) (m : Str → Option Value) (I9 C D : Addr) (n len : Nat) (s : Shared) (J : Nat → List Value → List (Addr × Obj) → (Str → Option Value) → Prop) (k : Nat) (s' : Shared) : Prop
  | mk (h' : Heap) (tk j : Nat) (ys' : List Value) (news' : List (Addr × Obj)) (m' : Str → Option Value) (oC' : Obj) : s' = { s with heap := h', toks := tk } → j ≤ n → k = n + 1 - j → ys'.length = len + j → J j ys' news' m' → NsObj oC' m' → Fr h₀ L h' m →
    News h₀ L h' ((I9, rangeIt (j : Int) ((n : Int) - j) 1) :: (C, oC') :: (D, lst ys') :: news') → Off3 I9 C D news' → IRInv h₀ L m I9 C D n len s J k s'
/-- the inner clause of a comprehension with two generators, over a range's iterator -/
theorem start_range2 {elt t0 i0 i1 : Expr} {x1 : Str} {p1 : Pos} {scope : Scope} {cl : List (Str × Addr)} {pos : Pos} {I9 C D : Addr} {oC : Obj} {n : Nat} {ys : List Value} {news : List (Addr × Obj)} {m₂ : Str → Option Value}
    (hh : A.handled = none) (hx : scope.names.lookup x1 = some .local) (hkind : scope.kind = .function)
    (hNs : NsObj oC m₂) (F : Fr h₀ L s.heap m) (N : News h₀ L s.heap ((I9, rangeIt 0 (n : Int) 1) :: (C, oC) :: (D, lst ys) :: news))
    (hCD : C ≠ D) (hIC : I9 ≠ C) (hID : I9 ≠ D) (off : Off3 I9 C D news) (hsz : ys.length + n ≤ sizeLine)
    (J : Nat → List Value → List (Addr × Obj) → (Str → Option Value) → Prop) (h0 : J 0 ys news m₂)
    (turn : ∀ j t ys' news' m' h tk oC' (Qy : Value → Shared → Prop), j < n → J j ys' news' m' → NsObj oC' (fun y => if y = x1 then some (.int (j : Int) t) else m' y) → Fr h₀ L h m →
      News h₀ L h ((I9, rangeIt ((j : Int) + 1) ((n : Int) - j - 1) 1) :: (C, oC') :: (D, lst ys') :: news') → Off3 I9 C D news' →
      (∀ y h' tk' news2, Fr h₀ L h' m → News h₀ L h' ((I9, rangeIt ((j : Int) + 1) ((n : Int) - j - 1) 1) :: (C, oC') :: (D, lst ys') :: news2) → Off3 I9 C D news2 → J (j + 1) (ys' ++ [y]) news2 (fun y => if y = x1 then some (.int (j : Int) t) else m' y) → Qy y { s with heap := h', toks := tk' }) →
      wpAny (model prog w) A (eval elt (compEnvC scope cl C env)) Qy (fun _ _ => False) { s with heap := h, toks := tk })
    (done : ∀ h' tk oC' m' ys' news', J n ys' news' m' → NsObj oC' m' → Fr h₀ L h' m → News h₀ L h' ((C, oC') :: (D, lst ys') :: news') → Off3 I9 C D news' → R (.ok .next) { s with heap := h', toks := tk }) :
    codeAny (model prog w) A (.compStart (comp2 elt t0 i0 (.Name x1 p1) i1 scope pos) 1 (.ref I9) (.ref D) (compEnvC scope cl C env)) R s := by
  have loop : codeAny (model prog w) A (.compLoop (comp2 elt t0 i0 (.Name x1 p1) i1 scope pos) 1 (.ref I9) (.ref D) (compEnvC scope cl C env)) R s := by
    refine codeAny_inner2
      (IRInv h₀ L m I9 C D n ys.length s J) ?_ (by intro _; rfl) (n + 1)
      ⟨s.heap, s.toks, 0, ys, news, m₂, oC, rfl, Nat.zero_le _, rfl, rfl, h0, hNs, F, by simpa using N, off⟩
    rintro k s' ⟨h', tk, j, ys', news', m', oC', rfl, hj, rfl, hlen, hJ, hNs', F', N', off'⟩
    have off3 := off'.mem
    have neI : ∀ p ∈ (C, oC') :: (D, lst ys') :: news', p.1 ≠ I9 := fun p hp => by
      rcases List.mem_cons.mp hp with rfl | hp
      · exact Ne.symm hIC
      · rcases List.mem_cons.mp hp with rfl | hp
        · exact Ne.symm hID
        · exact (off3 p hp).1
    by_cases hlt : j < n
    · refine next_range_K F' N' neI (by omega) ?_
      intro h1 F1 N1
      refine assign_comp hx hkind hNs' F1 N1 hIC ?_ ?_
      · intro p hp
        rcases List.mem_cons.mp hp with rfl | hp
        · exact Ne.symm hCD
        · exact (off3 p hp).2.1
      intro h2 tk2 oC2 hNs2 F2 N2
      refine turn j _ ys' news' m' h2 tk2 oC2 _ hlt hJ hNs2 F2 N2 off' fun y h4 tk4 news4 F4 N4 off4 hJ4 => ?_
      have zD := N4 (D, lst ys') (.tail _ (.tail _ (.head _)))
      have off4' := off4.mem
      refine append_at (hsz := by show ys'.toArray.size ≤ sizeLine; rw [List.size_toArray, hlen]; omega) zD.1 fun h5 hs5 hD5 => ?_
      have up : ∀ c x, c ≠ D → h4.get? c = some x → h5.get? c = some x := fun c x hc e => hs5.extBut c x hc e
      refine ⟨n + 1 - (j + 1), by omega, h5, _, j + 1, ys' ++ [y], news4, _, oC2, rfl, hlt, rfl, by rw [List.length_append, List.length_singleton, hlen]; omega, hJ4, hNs2, fr_put0 F4 zD.2.1 zD.2.2 up, fun p hp => ?_, off4⟩
      rcases List.mem_cons.mp hp with rfl | hp
      · have z := N4 _ (.head _)
        rw [show ((j + 1 : Nat) : Int) = (j : Int) + 1 from by omega, show (n : Int) - ((j : Int) + 1) = (n : Int) - j - 1 from by omega]
        exact ⟨up _ _ hID z.1, z.2⟩
      · rcases List.mem_cons.mp hp with rfl | hp
        · have z := N4 _ (.tail _ (.head _))
          exact ⟨up _ _ hCD z.1, z.2⟩
        · rcases List.mem_cons.mp hp with rfl | hp
          · exact ⟨hD5.trans (congrArg some (lst_snoc ys' y)), zD.2⟩
          · have z := N4 p (.tail _ (.tail _ (.tail _ hp)))
            exact ⟨up _ _ (off4' p hp).2.2 z.1, z.2⟩
    · obtain rfl : j = n := by omega
      refine next_range_end hh F' N' neI (by omega) ?_
      intro h1 F1 N1
      exact done h1 _ oC' m' ys' news' hJ hNs' F1 N1 off'
  exact codeAny_start2 loop (wpAny_pyIter_rangeiter (N _ (.head _)).1 loop)
end
end Mine

end
section
open PySem PySem.W PyProof.Rows PySem.Calls PySem.Spec
set_option maxRecDepth 100000
namespace Mine
theorem insOne_len (k : Nat) (w : List Int) : ∀ x ∈ insOne k w, x.length = w.length + 1 := by
  intro x hx
  obtain ⟨i, _, rfl⟩ := List.mem_map.mp hx
  rw [List.length_append, List.length_cons, List.length_take, List.length_drop]
  omega
theorem waysOf_len : ∀ (k : Nat), ∀ x ∈ waysOf k, x.length = k
  | 0, x, hx => by rw [List.mem_singleton.mp hx]; rfl
  | k + 1, x, hx => by
    obtain ⟨w, hw, hx⟩ := List.mem_flatMap.mp hx
    rw [insOne_len k w x hx, waysOf_len k w hw]
theorem insOne_count (k : Nat) (w : List Int) : (insOne k w).length = k + 1 := by rw [insOne, List.length_map, List.length_range]
theorem insOne_get (k : Nat) (w : List Int) (j : Nat) (h : j < k + 1) : (insOne k w).take (j + 1) = (insOne k w).take j ++ [w.take j ++ (k : Int) :: w.drop j] := by
  have e : (insOne k w)[j]? = some (w.take j ++ (k : Int) :: w.drop j) := by
    rw [insOne, List.getElem?_map, List.getElem?_range h]
    rfl
  rw [List.take_add_one, e]
  rfl
theorem insAll_len (k : Nat) : ∀ (wss : List (List Int)), (insAll k wss).length = wss.length * (k + 1)
  | [] => by rw [insAll]; simp
  | w :: r => by
    have ih := insAll_len k r
    rw [insAll] at ih ⊢
    rw [List.flatMap_cons, List.length_append, insOne_count, ih, List.length_cons, Nat.succ_mul, Nat.add_comm]
theorem waysOf_count : ∀ k, k ≤ 4 → (waysOf k).length ≤ 24 := by decide
end Mine
namespace Mine
theorem allLt_mem {d : Addr} {l : List (Addr × Obj)} (h : AllLt d l) : ∀ p ∈ l, p.1 < d := by
  induction l with
  | nil => intro p hp; cases hp
  | cons q r ih =>
    intro p hp
    rcases List.mem_cons.mp hp with hp | hp
    · rw [hp]; exact And.left h
    · exact ih (And.right h) p hp
end Mine

end
section
open PySem PySem.W PyProof.Rows PySem.Calls PySem.Spec
open PyProof.Rows.LCg
set_option maxRecDepth 100000
namespace Mine
theorem news_ne {h₀ h : Heap} {L : Addr} {l : List (Addr × Obj)} {a b : Addr} {o o' : Obj} (N : News h₀ L h l) (hp : (a, o) ∈ l) (hq : (b, o') ∈ l) (hd : o.data ≠ o'.data) : a ≠ b := fun e => by
  have h1 := (N _ hp).1
  have h2 := (N _ hq).1
  rw [show a = b from e] at h1
  rw [h1] at h2
  exact hd (congrArg Obj.data (Option.some.inj h2))
theorem WaysAt.mono' {news news' : List (Addr × Obj)} (hs : ∀ (a : Addr) (vals : List Value) (c : Nat), (a, listO vals.toArray c) ∈ news → (a, listO vals.toArray c) ∈ news') : ∀ {ys : List Value} {wss : List (List Int)}, WaysAt news ys wss → WaysAt news' ys wss
  | _, _, .nil => .nil
  | _, _, .cons h i r => .cons (hs _ _ _ h) i (r.mono' hs)
/-- what holds ahead of the turn k of the first loop -/
inductive RInv (g' : Heap) (L' : Addr) (I l : Addr) (nums : Obj) (mN : Str → Option Value) (s : Shared) (news : List (Addr × Obj)) (n : Nat) (s' : Shared) : Prop
  | mk (k : Nat) (h : Heap) (tk : Nat) (Wd : Addr) (ys : List Value) (cW : Nat) (oc : Obj) (x : Option Value) (stuff : List (Addr × Obj)) : n = 5 - k → k ≤ 4 → s' = { s with heap := h, toks := tk } →
    Fr g' L' h (fun y => if y = Str.ofString "ways" then some (Value.ref Wd) else mN y) →
    News g' L' h ((I, rangeIt (k : Int) (4 - (k : Int)) 1) :: (Wd, listO ys.toArray cW) :: (L' + 1, oc) :: (l, nums) :: stuff) →
    oc.data = .cell x → (∀ p ∈ stuff, p.1 ≠ I ∧ p.1 ≠ L' + 1) → (∀ p ∈ news, p ∈ stuff) → WaysAt stuff ys (waysOf k) → I ≠ L' + 1 → I ≠ l → l ≠ L' + 1 → I ≠ Wd → Wd ≠ L' + 1 → RInv g' L' I l nums mN s news n s'
theorem RInv.init {g' h : Heap} {L' I l aW aE : Addr} {nums oc : Obj} {mN : Str → Option Value} {s s' : Shared} {news : List (Addr × Obj)} {x : Option Value} {tk : Nat} (e : s' = { s with heap := h, toks := tk })
    (F : Fr g' L' h (fun y => if y = Str.ofString "ways" then some (Value.ref aW) else mN y))
    (N : News g' L' h ((I, rangeIt 0 4 1) :: (aW, listO #[.ref aE] 0) :: (aE, listO #[] 0) :: (L' + 1, oc) :: (l, nums) :: news)) (hd : oc.data = .cell x)
    (h1 : ∀ p ∈ (aW, listO #[.ref aE] 0) :: (aE, listO #[] 0) :: (L' + 1, oc) :: (l, nums) :: news, p.1 ≠ I) (h2 : ∀ p ∈ (l, nums) :: news, p.1 ≠ L' + 1) : RInv g' L' I l nums mN s news 5 s' := by
  have nc : ∀ {b : Addr} {its : Array Value} {j : Nat}, (b, listO its j) ∈ ((I, rangeIt 0 4 1) :: (aW, listO #[.ref aE] 0) :: (aE, listO #[] 0) :: (L' + 1, oc) :: (l, nums) :: news) → b ≠ L' + 1 := fun hb q => by
    have z1 := (N _ hb).1
    have z2 := (N (L' + 1, oc) (.tail _ (.tail _ (.tail _ (.head _))))).1
    rw [show _ = L' + 1 from q] at z1
    rw [z1] at z2
    have z3 := congrArg Obj.data (Option.some.inj z2)
    rw [hd] at z3
    cases z3
  refine ⟨0, h, tk, aW, [.ref aE], 0, oc, x, (aE, listO #[] 0) :: news, rfl, by decide, e, F, fun p hp => ?_, hd, fun p hp => ?_, fun p hp => .tail _ hp, .cons (vals := []) (.head _) .nil .nil, Ne.symm (h1 _ (.tail _ (.tail _ (.head _)))), Ne.symm (h1 _ (.tail _ (.tail _ (.tail _ (.head _))))), h2 _ (.head _), Ne.symm (h1 _ (.head _)), nc (.tail _ (.head _))⟩
  · refine N p ?_
    simp only [List.mem_cons] at hp ⊢
    rcases hp with h | h | h | h | h | h
    · exact .inl h
    · exact .inr (.inl h)
    · exact .inr (.inr (.inr (.inl h)))
    · exact .inr (.inr (.inr (.inr (.inl h))))
    · exact .inr (.inr (.inl h))
    · exact .inr (.inr (.inr (.inr (.inr h))))
  · rcases List.mem_cons.mp hp with rfl | hp
    · exact ⟨h1 _ (.tail _ (.head _)), nc (.tail _ (.tail _ (.head _)))⟩
    · exact ⟨h1 _ (.tail _ (.tail _ (.tail _ (.tail _ hp)))), h2 _ (.tail _ hp)⟩
theorem map_twice {m : Str → Option Value} {x : Str} {v v' : Option Value} : (fun y => if y = x then v else if y = x then v' else m y) = (fun y => if y = x then v else m y) := by
  funext y
  by_cases hy : y = x
  · rw [if_pos hy, if_pos hy]
  · rw [if_neg hy, if_neg hy, if_neg hy]
theorem RInv.step {g' h : Heap} {L' I l Wd D : Addr} {nums oc : Obj} {mN : Str → Option Value} {s : Shared} {news stuff nw L5 : List (Addr × Obj)} {x : Option Value} {tk : Nat} {k cW : Nat} {ys zs : List Value} (hk : k < 4)
    (hL5 : (I, rangeIt ((k : Int) + 1) (4 - (k : Int) - 1) 1) :: (Wd, listO ys.toArray cW) :: (L' + 1, oc) :: (l, nums) :: stuff = L5)
    (hst : ∀ p ∈ stuff, p.1 ≠ I ∧ p.1 ≠ L' + 1) (hsub : ∀ p ∈ news, p ∈ stuff) (hd : oc.data = .cell x) (i1 : I ≠ L' + 1) (i2 : I ≠ l) (i3 : l ≠ L' + 1)
    (e2 : ∀ p ∈ L5, p ∈ nw) (hW : WaysAt nw zs (waysOf (k + 1)))
    (F : Fr g' L' h (fun y => if y = Str.ofString "ways" then some (Value.ref D) else if y = Str.ofString "ways" then some (Value.ref Wd) else mN y))
    (N : News g' L' h ((D, lst zs) :: nw)) (off : Off1 D nw) : RInv g' L' I l nums mN s news (5 - (k + 1)) { s with heap := h, toks := tk } := by
  have mI : (I, rangeIt ((k : Int) + 1) (4 - (k : Int) - 1) 1) ∈ nw := e2 _ (by rw [← hL5]; exact .head _)
  have mC : (L' + 1, oc) ∈ nw := e2 _ (by rw [← hL5]; exact .tail _ (.tail _ (.head _)))
  have ml : (l, nums) ∈ nw := e2 _ (by rw [← hL5]; exact .tail _ (.tail _ (.tail _ (.head _))))
  have offm : ∀ p ∈ nw, p.1 ≠ D := by
    clear mI mC ml hW N e2
    induction nw with
    | nil => intro p hp; cases hp
    | cons q r ih =>
      intro p hp
      rcases List.mem_cons.mp hp with rfl | hp
      · exact off.1
      · exact ih off.2 p hp
  rw [map_twice] at F
  refine ⟨k + 1, h, tk, D, zs, zs.length, oc, x, nw.filter fun p => decide (p.1 ≠ I ∧ p.1 ≠ L' + 1), rfl, by omega, rfl, F, fun p hp => ?_, hd, fun p hp => ?_, fun p hp => ?_, ?_, i1, i2, i3, offm _ mI, Ne.symm (offm _ mC)⟩
  · simp only [List.mem_cons] at hp
    rcases hp with h | h | h | h | h
    · rw [h]
      have z := N _ (.tail _ mI)
      rw [show ((k + 1 : Nat) : Int) = (k : Int) + 1 from by omega, show (4 : Int) - ((k : Int) + 1) = 4 - (k : Int) - 1 from by omega]
      exact z
    · rw [h]; exact N _ (.head _)
    · rw [h]; exact N _ (.tail _ mC)
    · rw [h]; exact N _ (.tail _ ml)
    · exact N p (.tail _ (List.mem_filter.mp h).1)
  · exact of_decide_eq_true (List.mem_filter.mp hp).2
  · have hp' := hsub p hp
    exact List.mem_filter.mpr ⟨e2 _ (by rw [← hL5]; exact .tail _ (.tail _ (.tail _ (.tail _ hp')))), decide_eq_true (hst p hp')⟩
  · refine hW.mono' fun a vals c hm => List.mem_filter.mpr ⟨hm, decide_eq_true ⟨?_, ?_⟩⟩
    · refine news_ne N (.tail _ hm) (.tail _ mI) ?_
      intro q; cases q
    · refine news_ne N (.tail _ hm) (.tail _ mC) ?_
      rw [hd]; intro q; cases q
end Mine

end
section
open PySem PySem.W PyProof.Rows PySem.Calls PySem.Spec
open PyProof.Rows.LCg
set_option maxRecDepth 100000
namespace Mine
section
variable {prog : Program} {w : World} {A : Around} {s : Shared} {R : Result → Shared → Prop}
/-- what holds ahead of a turn of a loop over a list -/
inductive FLInv (h₀ : Heap) (L I l : Addr) (n : Nat) (s : Shared) (J : Nat → (Str → Option Value) → List (Addr × Obj) → Prop) (k : Nat) (s' : Shared) : Prop
  | mk (h' : Heap) (tk : Nat) (m' : Str → Option Value) (news' : List (Addr × Obj)) (i : Nat) (oI : Obj) : s' = { s with heap := h', toks := tk } → IsIt oI l i → Fr h₀ L h' m' → News h₀ L h' ((I, oI) :: news') →
    (∀ p ∈ news', p.1 ≠ I) → J i m' news' → i ≤ n → k = n + 1 - i → FLInv h₀ L I l n s J k s'
/-- a loop over a list of the ledger -/
theorem iterC_list {h₀ : Heap} {env : Env} {x : Str} {px : Pos} {body : List Stmt} {E : Value → Shared → Prop} {l : Addr} {its : Array Value} {c : Nat} {m : Str → Option Value} {news : List (Addr × Obj)}
    (hh : A.handled = none) (hx : env.kindOf x = some .local)
    (hp : (env.scope.kind == .class || (env.scope.kind == .module && env.locals != env.globals)) = false)
    (F : Fr h₀ env.locals s.heap m) (N : News h₀ env.locals s.heap news) (hl : (l, listO its c) ∈ news)
    (J : Nat → (Str → Option Value) → List (Addr × Obj) → Prop) (hJ : ∀ i m' nw, J i m' nw → ∃ c, (l, listO its c) ∈ nw) (h0 : J 0 m news)
    (turn : ∀ I oI i v m₁ news₁ h tk (Qb : Flow → Shared → Prop), I = s.heap.objs.size → i < its.size → its[i]? = some v → J i m₁ news₁ → (∀ p ∈ news₁, p.1 ≠ I) → IsIt oI l (i + 1) → Fr h₀ env.locals h (fun y => if y = x then some v else m₁ y) →
      News h₀ env.locals h ((I, oI) :: news₁) →
      (∀ h' tk' m₂ news₂, Fr h₀ env.locals h' m₂ → News h₀ env.locals h' ((I, oI) :: news₂) → (∀ p ∈ news₂, p.1 ≠ I) → J (i + 1) m₂ news₂ → Qb .next { s with heap := h', toks := tk' }) →
      wpC (model prog w) A (execs body env) Qb (fun _ _ => False) { s with heap := h, toks := tk })
    (done : ∀ h' tk m' news', Fr h₀ env.locals h' m' → News h₀ env.locals h' news' → J its.size m' news' → R (.ok .next) { s with heap := h', toks := tk }) :
    wpAny (model prog w) A (pyIter (.ref l)) (fun it s₂ => codeC (model prog w) A (.forLoop (.Name x px) it body [] env) R s₂) E s := by
  have hli : s.heap.IsList l its := ⟨_, (N _ hl).1, rfl, _, rfl⟩
  refine wpAny_pyIter_list hli ?_
  have up : ∀ b o, s.heap.get? b = some o → (s.heap.push { cls := .type "list_iterator", data := .fields #[.ref l, .int 0 0] }).get? b = some o := fun b o e => Heap.get?_push_of_some _ e
  have hLI : env.locals ≠ s.heap.objs.size := Nat.ne_of_lt F.ns.lt
  have hI₀ : h₀.get? s.heap.objs.size = none := MapIt.fresh_none F (Nat.le_refl _)
  refine codeC_forLoop
    (FLInv h₀ env.locals s.heap.objs.size l its.size s J) ?_ (by intro _; rfl) (its.size + 1) _
    ⟨_, s.toks, m, news, 0, _, rfl, ⟨rfl, rfl⟩, F.keeps up, MapIt.news_new F (N.grown up) (Nat.le_refl _) (Heap.get?_push_size _ rfl), fun p hp => Nat.ne_of_lt (Heap.lt_size (N p hp).1), h0, Nat.zero_le _, rfl⟩
  rintro k s' ⟨h', tk, m', news', i, oI, rfl, hIt, F', N', hne, hJi, hi, rfl⟩
  obtain ⟨c', hl'⟩ := hJ _ _ _ hJi
  have hlI : l ≠ s.heap.objs.size := hne _ hl'
  have zI := N' _ (.head _)
  have hIL : h'.IsListIter s.heap.objs.size l i := ⟨_, zI.1, hIt.cls, hIt.data⟩
  have hLl : h'.IsList l its := ⟨_, (N' _ (.tail _ hl')).1, rfl, _, rfl⟩
  by_cases hlt : i < its.size
  · refine wpAny_pyNext_list_item hIL hLl (Array.getElem?_eq_getElem hlt) fun h₁ hit₁ hs₁ => ?_
    obtain ⟨o1, e1, c1, d1⟩ := hit₁
    obtain ⟨F₁, N₁⟩ := step_at F' N' hne e1 (fun b y hb e => hs₁.extBut b y hb e)
    refine wpAny_assign_Name (wpAny_storeName_local hx F₁.ns (fun h₂ hn₂ hs₂ => ?_) hp)
    have F₂ := F₁.set hn₂ hs₂
    have N₂ := N₁.set hs₂
    exact turn _ o1 i _ m' news' h₂ _ _ rfl hlt (Array.getElem?_eq_getElem hlt) hJi hne ⟨c1, d1⟩ F₂ N₂ fun h₃' tk₃ m₂ news₂ F₃ N₃ ha₃ hJ₃ => ⟨its.size + 1 - (i + 1), by omega, h₃', tk₃, m₂, news₂, i + 1, o1, rfl, ⟨c1, d1⟩, F₃, N₃, ha₃, hJ₃, hlt, rfl⟩
  · obtain rfl : i = its.size := Nat.le_antisymm hi (Nat.not_lt.mp hlt)
    refine wpAny_pyNext_list_end hh hIL hLl (by simp) fun h₁ he => ?_
    have up' : ∀ b y, b ≠ s.heap.objs.size → h'.get? b = some y → h₁.get? b = some y := fun b y hb e => he b y hb e
    exact done h₁ tk m' news' (fr_put0 F' zI.2.1 zI.2.2 up') (fun p hp => ⟨up' _ _ (hne p hp) (N' p (.tail _ hp)).1, (N' p (.tail _ hp)).2⟩) hJi
end
end Mine

end
section
set_option maxRecDepth 100000
namespace Mine
/-! THE PLAIN LAW: four whole numbers, all their orders, all their rings. No program in sight. -/
namespace Plain
/-- the orders of the four cells ahead of each turn -/
noncomputable def rowsT : List (List Nat) := [[0, 1, 2, 3], [1, 0, 2, 3], [2, 0, 1, 3], [0, 2, 1, 3], [1, 2, 0, 3], [2, 1, 0, 3], [3, 0, 1, 2], [0, 3, 1, 2], [1, 3, 0, 2], [3, 1, 0, 2], [0, 1, 3, 2], [1, 0, 3, 2], [2, 3, 0, 1], [3, 2, 0, 1], [0, 2, 3, 1], [2, 0, 3, 1], [3, 0, 2, 1], [0, 3, 2, 1], [1, 2, 3, 0], [2, 1, 3, 0], [3, 1, 2, 0], [1, 3, 2, 0], [2, 3, 1, 0], [3, 2, 1, 0]]
/-- the heads of each order, as sets of places (a bit a place) -/
noncomputable def headsT : List (Nat × Nat × Nat) := [(1, 3, 7), (2, 3, 7), (4, 5, 7), (1, 5, 7), (2, 6, 7), (4, 6, 7), (8, 9, 11), (1, 9, 11), (2, 10, 11), (8, 10, 11), (1, 3, 11), (2, 3, 11), (4, 12, 13), (8, 12, 13), (1, 5, 13), (4, 5, 13), (8, 9, 13), (1, 9, 13), (2, 6, 14), (4, 6, 14), (8, 10, 14), (2, 10, 14), (4, 12, 14), (8, 12, 14)]
/-- the rings of each way -/
noncomputable def ringsT : List (List Nat) := [[9, 6], [15], [13, 2], [5, 2, 8], [9, 2, 4], [11, 4], [15], [7, 8], [13, 2], [15], [3, 12], [3, 4, 8], [15], [5, 10], [15], [7, 8], [11, 4], [1, 10, 4], [1, 14], [1, 6, 8], [15], [1, 14], [1, 2, 12], [1, 2, 4, 8]]
/-- each set with its parts in two -/
noncomputable def partsT : List (Nat × List (Nat × Nat)) := [(1, []), (2, []), (3, [(1, 2)]), (4, []), (5, [(1, 4)]), (6, [(2, 4)]), (7, [(1, 6), (2, 5), (3, 4)]), (8, []), (9, [(1, 8)]), (10, [(2, 8)]), (11, [(1, 10), (2, 9), (3, 8)]), (12, [(4, 8)]), (13, [(1, 12), (4, 9), (5, 8)]), (14, [(2, 12), (4, 10), (6, 8)]), (15, [(1, 14), (2, 13), (3, 12), (4, 11), (5, 10), (6, 9), (7, 8)])]

noncomputable def bit (m i : Nat) : Nat := m / 2 ^ i % 2
/-- the sum over a set of places -/
noncomputable def sub (n0 n1 n2 n3 : Int) (m : Nat) : Int :=
  (if bit m 0 = 1 then n0 else 0) + (if bit m 1 = 1 then n1 else 0) + (if bit m 2 = 1 then n2 else 0) + (if bit m 3 = 1 then n3 else 0)

noncomputable def tb (s m : Nat) : Bool := Nat.beq (Nat.land 1 (Nat.shiftRight s m)) 1
noncomputable def best3 (f : Nat → Bool) (c p3 : Nat) : Nat := cond (f (Nat.sub p3 c)) (cond (f (Nat.sub 15 p3)) 15 p3) (cond (f (Nat.sub 15 c)) 15 c)
noncomputable def best2 (f : Nat → Bool) (c p2 p3 : Nat) : Nat := cond (f (Nat.sub p2 c)) (best3 f p2 p3) (best3 f c p3)
noncomputable def best (f : Nat → Bool) (p1 p2 p3 : Nat) : Nat := cond (f p1) (best2 f p1 p2 p3) (best2 f 0 p2 p3)
noncomputable def aboves (f : Nat → Bool) (p1 p2 p3 : Nat) : Nat := Nat.add (Nat.add (cond (f p1) 1 0) (cond (f p2) 1 0)) (Nat.add (cond (f p3) 1 0) (cond (f 15) 1 0))
noncomputable def ones (m : Nat) : Nat := Nat.add (Nat.add (Nat.land m 1) (Nat.land (Nat.shiftRight m 1) 1)) (Nat.add (Nat.land (Nat.shiftRight m 2) 1) (Nat.land (Nat.shiftRight m 3) 1))
noncomputable def ringUp (f : Nat → Bool) : List Nat → Nat
  | [] => 0
  | m :: r => Nat.add (cond (f m) m 0) (ringUp f r)
/-- a list of numbers told by one number: the sum of 32 to them -/
noncomputable def tally : List Nat → Nat
  | [] => 0
  | m :: r => Nat.add (Nat.shiftLeft 1 (Nat.mul 5 m)) (tally r)
noncomputable def bests (f : Nat → Bool) : List Nat := headsT.map fun h => best f h.1 h.2.1 h.2.2
noncomputable def okAt (s : Nat) : Bool :=
  Nat.beq (tally (bests (tb s))) (tally (ringsT.map (ringUp (tb s)))) &&
  Nat.beq (tally (headsT.map fun h => aboves (tb s) h.1 h.2.1 h.2.2)) (tally ((bests (tb s)).map ones))
noncomputable def fits (s : Nat) (b : Bool) : List (Nat × Nat) → Bool
  | [] => true
  | (x, y) :: r => and (or (cond b (tb s x) (not (tb s x))) (cond b (tb s y) (not (tb s y)))) (fits s b r)
noncomputable def tree : List (Nat × List (Nat × Nat)) → Nat → Bool
  | [], s => okAt s
  | (m, ps) :: r, s => and (or (not (fits s true ps)) (tree r (Nat.add (Nat.pow 2 m) s))) (or (not (fits s false ps)) (tree r s))
theorem tree_two (r : List (Nat × List (Nat × Nat))) : tree ((1, []) :: (2, []) :: r) 0 = and (and (tree r 6) (tree r 2)) (and (tree r 4) (tree r 0)) := rfl
theorem tree_a : tree (partsT.drop 2) 6 = true := by decide +kernel
theorem tree_b : tree (partsT.drop 2) 2 = true := by decide +kernel
theorem tree_c : tree (partsT.drop 2) 4 = true := by decide +kernel
theorem tree_d : tree (partsT.drop 2) 0 = true := by decide +kernel
theorem tree_ok : tree partsT 0 = true := by
  refine (tree_two (partsT.drop 2)).trans ?_
  rw [tree_a, tree_b, tree_c, tree_d]
  rfl
end Plain
end Mine

end
section
set_option maxRecDepth 100000
namespace Mine
namespace Plain

theorem tally_split (a : Nat) : ∀ xs : List Nat, ∃ L K, tally xs = L + xs.count a * 32 ^ a + 32 ^ (a + 1) * K ∧ L * 32 ≤ xs.length * 32 ^ a
  | [] => ⟨0, 0, by simp [tally], by simp⟩
  | m :: r => by
    obtain ⟨L, K, e, b⟩ := tally_split a r
    have hm : Nat.shiftLeft 1 (Nat.mul 5 m) = 32 ^ m := by
      show 1 <<< (5 * m) = 32 ^ m
      rw [Nat.shiftLeft_eq, Nat.one_mul, Nat.pow_mul]
    have ht : tally (m :: r) = 32 ^ m + tally r := by
      show Nat.add (Nat.shiftLeft 1 (Nat.mul 5 m)) (tally r) = _
      rw [hm]; rfl
    have hp : 0 < 32 ^ a := Nat.pow_pos (by decide)
    rcases Nat.lt_trichotomy m a with h | h | h
    · refine ⟨32 ^ m + L, K, ?_, ?_⟩
      · rw [ht, e, List.count_cons_of_ne (by omega)]; omega
      · have : 32 ^ m * 32 ≤ 32 ^ a := by
          rw [← Nat.pow_succ]; exact Nat.pow_le_pow_right (by decide) h
        rw [List.length_cons, Nat.add_mul, Nat.add_mul]; omega
    · subst h
      refine ⟨L, K, ?_, ?_⟩
      · rw [ht, e, List.count_cons_self, Nat.add_mul]; omega
      · rw [List.length_cons, Nat.add_mul]; omega
    · refine ⟨L, K + 32 ^ (m - (a + 1)), ?_, ?_⟩
      · have : 32 ^ m = 32 ^ (a + 1) * 32 ^ (m - (a + 1)) := by rw [← Nat.pow_add]; congr 1; omega
        rw [ht, e, List.count_cons_of_ne (by omega), Nat.mul_add, this]; omega
      · rw [List.length_cons, Nat.add_mul]; omega
theorem digit_one {P L c K L' c' K' : Nat} (hP : 0 < P) (h : L + c * P + P * 32 * K = L' + c' * P + P * 32 * K') (hL : L < P) (hL' : L' < P) (hc : c < 32) (hc' : c' < 32) : c = c' := by
  have e1 : (L + c * P + P * 32 * K) / P = c + 32 * K := by
    rw [show L + c * P + P * 32 * K = L + P * (c + 32 * K) by rw [Nat.mul_add, Nat.mul_comm c P, ← Nat.mul_assoc]; omega, Nat.add_mul_div_left _ _ hP, Nat.div_eq_of_lt hL, Nat.zero_add]
  have e2 : (L' + c' * P + P * 32 * K') / P = c' + 32 * K' := by
    rw [show L' + c' * P + P * 32 * K' = L' + P * (c' + 32 * K') by rw [Nat.mul_add, Nat.mul_comm c' P, ← Nat.mul_assoc]; omega, Nat.add_mul_div_left _ _ hP, Nat.div_eq_of_lt hL', Nat.zero_add]
  rw [h] at e1
  omega
theorem perm_of_tally {xs ys : List Nat} (lx : xs.length < 32) (ly : ys.length < 32) (h : tally xs = tally ys) : xs.Perm ys := by
  rw [List.perm_iff_count]
  intro a
  obtain ⟨L, K, e, b⟩ := tally_split a xs
  obtain ⟨L', K', e', b'⟩ := tally_split a ys
  have hp : 0 < 32 ^ a := Nat.pow_pos (by decide)
  have q1 : xs.length * 32 ^ a ≤ 31 * 32 ^ a := Nat.mul_le_mul_right _ (by omega)
  have q2 : ys.length * 32 ^ a ≤ 31 * 32 ^ a := Nat.mul_le_mul_right _ (by omega)
  rw [e, e', Nat.pow_succ] at h
  exact digit_one hp h (by omega) (by omega) (Nat.lt_of_le_of_lt List.count_le_length lx) (Nat.lt_of_le_of_lt List.count_le_length ly)

/-- the signs of the sums, below 16 -/
noncomputable def sg (n0 n1 n2 n3 : Int) (m : Nat) : Bool := if m < 16 then decide (0 < sub n0 n1 n2 n3 m) else false
noncomputable def enc (f : Nat → Bool) : Nat → Nat
  | 0 => 0
  | m + 1 => (if f m = true then 2 ^ m else 0) + enc f m
theorem enc_lt (f : Nat → Bool) : ∀ m, enc f m < 2 ^ m
  | 0 => Nat.one_pos
  | m + 1 => by
    have := enc_lt f m
    show (if f m = true then 2 ^ m else 0) + enc f m < 2 ^ (m + 1)
    rw [Nat.pow_succ]
    split <;> omega
theorem tb_eq (s m : Nat) : tb s m = s.testBit m := by
  unfold tb Nat.testBit
  show Nat.beq (1 &&& (s >>> m)) 1 = ((1 &&& (s >>> m)) != 0)
  rw [Nat.one_and_eq_mod_two]
  rcases Nat.mod_two_eq_zero_or_one (s >>> m) with h | h <;> rw [h] <;> rfl
theorem tb_enc (f : Nat → Bool) : ∀ m k, k < m → tb (enc f m) k = f k
  | 0, _, h => absurd h (by omega)
  | m + 1, k, h => by
    rw [tb_eq]
    show ((if f m = true then 2 ^ m else 0) + enc f m).testBit k = f k
    by_cases hk : k = m
    · subst hk
      have hlt := Nat.testBit_lt_two_pow (enc_lt f k)
      cases hf : f k with
      | true => rw [if_pos rfl, Nat.testBit_two_pow_add_eq, hlt]; rfl
      | false => rw [if_neg Bool.false_ne_true, Nat.zero_add, hlt]
    · have hkm : k < m := by omega
      have ih := tb_enc f m k hkm
      rw [tb_eq] at ih
      split
      · rw [Nat.testBit_two_pow_add_gt hkm, ih]
      · rw [Nat.zero_add, ih]
theorem tb_enc_ge (f : Nat → Bool) (m k : Nat) (h : m ≤ k) : tb (enc f m) k = false := by
  rw [tb_eq]
  exact Nat.testBit_lt_two_pow (Nat.lt_of_lt_of_le (enc_lt f m) (Nat.pow_le_pow_right (by decide) h))

theorem fits_cons (s : Nat) (b : Bool) (x y : Nat) (r : List (Nat × Nat)) : fits s b ((x, y) :: r) = and (or (cond b (tb s x) (not (tb s x))) (cond b (tb s y) (not (tb s y)))) (fits s b r) := rfl
theorem tree_cons (m : Nat) (ps : List (Nat × Nat)) (r : List (Nat × List (Nat × Nat))) (s : Nat) : tree ((m, ps) :: r) s = and (or (not (fits s true ps)) (tree r (2 ^ m + s))) (or (not (fits s false ps)) (tree r s)) := rfl
theorem fits_of (f : Nat → Bool) (k : Nat) (b : Bool) (hb : f k = b) : ∀ ps : List (Nat × Nat),
    (∀ y ∈ ps, y.1 < k ∧ y.2 < k ∧ (f k = true → f y.1 = true ∨ f y.2 = true) ∧ (f k = false → f y.1 = false ∨ f y.2 = false)) → fits (enc f k) b ps = true
  | [], _ => rfl
  | (y1, y2) :: ps, hq => by
    obtain ⟨h1, h2, ht, hf⟩ := hq _ (.head _)
    simp only at h1 h2 ht hf
    rw [fits_cons, fits_of f k b hb ps fun z hz => hq z (.tail _ hz), tb_enc f k y1 h1, tb_enc f k y2 h2, Bool.and_true]
    cases b with
    | true => rcases ht hb with h | h <;> rw [h] <;> cases f y1 <;> rfl
    | false => rcases hf hb with h | h <;> rw [h] <;> cases f y1 <;> rfl
/-- signs that fit all the parts lead through the tree to its leaf -/
theorem tree_leaf (f : Nat → Bool) (r : List (Nat × List (Nat × Nat))) : ∀ m, r.map (·.1) = List.range' m (16 - m) → m ≤ 16 →
    (∀ x ∈ r, ∀ y ∈ x.2, y.1 < x.1 ∧ y.2 < x.1 ∧ (f x.1 = true → f y.1 = true ∨ f y.2 = true) ∧ (f x.1 = false → f y.1 = false ∨ f y.2 = false)) →
    tree r (enc f m) = true → tree [] (enc f 16) = true := by
  induction r with
  | nil =>
    intro m hr hm _ h
    have h0 : 16 - m = 0 := by
      have := congrArg List.length hr
      simp only [List.map_nil, List.length_nil, List.length_range'] at this
      omega
    have h1 : m = 16 := by omega
    rw [h1] at h
    exact h
  | cons x r ih =>
    obtain ⟨k, ps⟩ := x
    intro m hr hm hp h
    have hlt : m < 16 := by
      rcases Nat.lt_or_ge m 16 with h | h
      · exact h
      · have : 16 - m = 0 := by omega
        rw [this] at hr; simp at hr
    have e16 : 16 - m = (16 - (m + 1)) + 1 := by omega
    rw [e16, List.range'_succ, List.map_cons, List.cons.injEq] at hr
    obtain ⟨hk, hr'⟩ := hr
    simp only at hk
    subst hk
    rw [tree_cons, Bool.and_eq_true, Bool.or_eq_true, Bool.or_eq_true] at h
    refine ih (k + 1) hr' hlt (fun x hx => hp x (.tail _ hx)) ?_
    have en : enc f (k + 1) = (if f k = true then 2 ^ k else 0) + enc f k := rfl
    rw [en]
    cases hb : f k with
    | true =>
      rw [if_pos rfl]
      have q0 := fits_of f k true hb ps (hp _ (.head _))
      rcases h.1 with q | q
      · rw [q0] at q; cases q
      · exact q
    | false =>
      rw [if_neg Bool.false_ne_true, Nat.zero_add]
      have q0 := fits_of f k false hb ps (hp _ (.head _))
      rcases h.2 with q | q
      · rw [q0] at q; cases q
      · exact q
end Plain
end Mine

end
section
open PySem PySem.W PyProof.Rows PySem.Calls PySem.Spec
set_option maxRecDepth 100000
namespace Mine
/-! Small words that are proved once: a list told by its length, a text list told by its texts, an item of a written array. -/
theorem strs_nil {vs : List Value} (h : StrsAre vs []) : vs = [] := by cases h; rfl
theorem strs_cons {vs : List Value} {y : Str} {ys : List Str} (h : StrsAre vs (y :: ys)) : ∃ t vs', vs = .str y t :: vs' ∧ StrsAre vs' ys := by
  cases h with
  | cons _ t h => exact ⟨t, _, rfl, h⟩
theorem strs3 {vs : List Value} {a b c : Str} (h : StrsAre vs [a, b, c]) : ∃ t0 t1 t2, vs = [.str a t0, .str b t1, .str c t2] := by
  obtain ⟨t0, v0, rfl, h1⟩ := strs_cons h
  obtain ⟨t1, v1, rfl, h2⟩ := strs_cons h1
  obtain ⟨t2, v2, rfl, h3⟩ := strs_cons h2
  rw [strs_nil h3]
  exact ⟨t0, t1, t2, rfl⟩
theorem strs4 {vs : List Value} {a b c d : Str} (h : StrsAre vs [a, b, c, d]) : ∃ t0 t1 t2 t3, vs = [.str a t0, .str b t1, .str c t2, .str d t3] := by
  obtain ⟨t0, v0, rfl, h1⟩ := strs_cons h
  obtain ⟨t1, t2, t3, rfl⟩ := strs3 h1
  exact ⟨t0, t1, t2, t3, rfl⟩
theorem get3 {P : Nat → Value → Prop} {a b c : Value} (h0 : P 0 a) (h1 : P 1 b) (h2 : P 2 c) : ∀ (i : Nat) (v : Value), #[a, b, c][i]? = some v → P i v := by
  intro i v h
  match i with
  | 0 => cases h; exact h0
  | 1 => cases h; exact h1
  | 2 => cases h; exact h2
  | n + 3 => exact absurd h (by simp)
theorem get4 {P : Nat → Value → Prop} {a b c d : Value} (h0 : P 0 a) (h1 : P 1 b) (h2 : P 2 c) (h3 : P 3 d) : ∀ (i : Nat) (v : Value), #[a, b, c, d][i]? = some v → P i v := by
  intro i v h
  match i with
  | 0 => cases h; exact h0
  | 1 => cases h; exact h1
  | 2 => cases h; exact h2
  | 3 => cases h; exact h3
  | n + 4 => exact absurd h (by simp)
theorem lt4 {P : Nat → Prop} (h0 : P 0) (h1 : P 1) (h2 : P 2) (h3 : P 3) : ∀ k, k < 4 → P k := by
  intro k hk
  match k with
  | 0 => exact h0
  | 1 => exact h1
  | 2 => exact h2
  | 3 => exact h3
  | n + 4 => exact absurd hk (by omega)
theorem list_succ {α : Type} {l : List α} {n : Nat} (h : l.length = n + 1) : ∃ a r, l = a :: r ∧ r.length = n := by
  cases l with
  | nil => exact absurd h (by simp)
  | cons a r => exact ⟨a, r, rfl, by simpa using h⟩
theorem list4 {α : Type} {l : List α} (h : l.length = 4) : ∃ a b c d, l = [a, b, c, d] := by
  obtain ⟨a, l1, rfl, h1⟩ := list_succ h
  obtain ⟨b, l2, rfl, h2⟩ := list_succ h1
  obtain ⟨c, l3, rfl, h3⟩ := list_succ h2
  obtain ⟨d, l4, rfl, h4⟩ := list_succ h3
  rw [List.length_eq_zero_iff.mp h4]
  exact ⟨a, b, c, d, rfl⟩
theorem list5 {α : Type} {l : List α} (h : l.length = 5) : ∃ a b c d e, l = [a, b, c, d, e] := by
  obtain ⟨a, l1, rfl, h1⟩ := list_succ h
  obtain ⟨b, c, d, e, rfl⟩ := list4 h1
  exact ⟨a, b, c, d, e, rfl⟩
end Mine

end
section
set_option maxRecDepth 100000
namespace Mine
namespace Plain
noncomputable def partOk (x y : Nat) : Bool := x < 16 && y < 16 && x &&& y == 0
noncomputable def bitsFit (a b c : Nat) : Bool := (a == 1 && b == 1 && c == 0) || (a == 1 && b == 0 && c == 1) || (a == 0 && b == 0 && c == 0)
noncomputable def partFit (x y : Nat) : Bool := !partOk x y || (decide (x + y < 16) && bitsFit (bit (x + y) 0) (bit x 0) (bit y 0) && bitsFit (bit (x + y) 1) (bit x 1) (bit y 1) && bitsFit (bit (x + y) 2) (bit x 2) (bit y 2) && bitsFit (bit (x + y) 3) (bit x 3) (bit y 3))
theorem part_bits : ∀ x, x < 16 → ∀ y, y < 16 → partFit x y = true := by decide +kernel
theorem bitsFit_or {a b c : Nat} (h : bitsFit a b c = true) : (a = 1 ∧ b = 1 ∧ c = 0) ∨ (a = 1 ∧ b = 0 ∧ c = 1) ∨ (a = 0 ∧ b = 0 ∧ c = 0) := by
  simpa only [bitsFit, Bool.or_eq_true, Bool.and_eq_true, beq_iff_eq, and_assoc, or_assoc] using h
theorem ite_part {a b c : Nat} {n : Int} (h : bitsFit a b c = true) : (if a = 1 then n else 0) = (if b = 1 then n else 0) + (if c = 1 then n else 0) := by
  rcases bitsFit_or h with ⟨rfl, rfl, rfl⟩ | ⟨rfl, rfl, rfl⟩ | ⟨rfl, rfl, rfl⟩
  · exact (Int.add_zero n).symm
  · exact (Int.zero_add n).symm
  · exact (Int.add_zero 0).symm
theorem four_add (a b c d a' b' c' d' : Int) : (a + a') + (b + b') + (c + c') + (d + d') = (a + b + c + d) + (a' + b' + c' + d') := by omega
section
variable (n0 n1 n2 n3 : Int)
theorem sub_part {x y : Nat} (h : partOk x y = true) : sub n0 n1 n2 n3 (x + y) = sub n0 n1 n2 n3 x + sub n0 n1 n2 n3 y := by
  have h' := h
  simp only [partOk, Bool.and_eq_true, decide_eq_true_eq] at h'
  have q := part_bits x h'.1.1 y h'.1.2
  simp only [partFit, h, Bool.not_true, Bool.false_or, Bool.and_eq_true, decide_eq_true_eq] at q
  obtain ⟨⟨⟨⟨lt, q0⟩, q1⟩, q2⟩, q3⟩ := q
  unfold sub
  rw [ite_part q0, ite_part q1, ite_part q2, ite_part q3]
  exact four_add _ _ _ _ _ _ _ _
theorem sub_zero : sub n0 n1 n2 n3 0 = 0 := rfl
/-- a number in its place -/
noncomputable def num : Nat → Int
  | 0 => n0 | 1 => n1 | 2 => n2 | 3 => n3 | _ => 0
theorem num_sub : ∀ i, i < 4 → num n0 n1 n2 n3 i = sub n0 n1 n2 n3 (2 ^ i) :=
  lt4 (P := fun i => num n0 n1 n2 n3 i = sub n0 n1 n2 n3 (2 ^ i)) (show n0 = n0 + 0 + 0 + 0 by omega) (show n1 = 0 + n1 + 0 + 0 by omega) (show n2 = 0 + 0 + n2 + 0 by omega) (show n3 = 0 + 0 + 0 + n3 by omega)
theorem sg_fit (k x y : Nat) (hk : k < 16) (hx : x < k) (hy : y < k) (h : sub n0 n1 n2 n3 k = sub n0 n1 n2 n3 x + sub n0 n1 n2 n3 y) :
    x < k ∧ y < k ∧ (sg n0 n1 n2 n3 k = true → sg n0 n1 n2 n3 x = true ∨ sg n0 n1 n2 n3 y = true) ∧ (sg n0 n1 n2 n3 k = false → sg n0 n1 n2 n3 x = false ∨ sg n0 n1 n2 n3 y = false) := by
  have e1 : sg n0 n1 n2 n3 k = decide (0 < sub n0 n1 n2 n3 k) := if_pos hk
  have e2 : sg n0 n1 n2 n3 x = decide (0 < sub n0 n1 n2 n3 x) := if_pos (by omega)
  have e3 : sg n0 n1 n2 n3 y = decide (0 < sub n0 n1 n2 n3 y) := if_pos (by omega)
  rw [e1, e2, e3, h]
  simp only [decide_eq_true_eq, decide_eq_false_iff_not]
  generalize sub n0 n1 n2 n3 x = u
  generalize sub n0 n1 n2 n3 y = v
  clear h e1 e2 e3
  refine ⟨hx, hy, fun _ => ?_, fun _ => ?_⟩ <;> omega
theorem sg_parts : ∀ x ∈ partsT, ∀ y ∈ x.2, y.1 < x.1 ∧ y.2 < x.1 ∧ (sg n0 n1 n2 n3 x.1 = true → sg n0 n1 n2 n3 y.1 = true ∨ sg n0 n1 n2 n3 y.2 = true) ∧ (sg n0 n1 n2 n3 x.1 = false → sg n0 n1 n2 n3 y.1 = false ∨ sg n0 n1 n2 n3 y.2 = false) := by
  have h1 : ∀ x ∈ partsT, ∀ y ∈ x.2, x.1 < 16 ∧ y.1 < x.1 ∧ y.2 < x.1 ∧ x.1 = y.1 + y.2 ∧ partOk y.1 y.2 = true := by decide +kernel
  intro x hx y hy
  obtain ⟨a, b, c, d, e⟩ := h1 x hx y hy
  exact sg_fit n0 n1 n2 n3 _ _ _ a b c (by rw [d]; exact sub_part n0 n1 n2 n3 e)
theorem sg_eq : tb (enc (sg n0 n1 n2 n3) 16) = sg n0 n1 n2 n3 := by
  funext k
  rcases Nat.lt_or_ge k 16 with h | h
  · exact tb_enc _ _ _ h
  · rw [tb_enc_ge _ _ _ h]; exact (if_neg (Nat.not_lt.mpr h)).symm
theorem ok_sg : tally (bests (sg n0 n1 n2 n3)) = tally (ringsT.map (ringUp (sg n0 n1 n2 n3))) ∧
    tally (headsT.map fun h => aboves (sg n0 n1 n2 n3) h.1 h.2.1 h.2.2) = tally ((bests (sg n0 n1 n2 n3)).map ones) := by
  have h := tree_leaf (sg n0 n1 n2 n3) partsT 1 (by rfl) (by decide) (sg_parts n0 n1 n2 n3) (by
    have e : enc (sg n0 n1 n2 n3) 1 = 0 := by
      show (if sg n0 n1 n2 n3 0 = true then 2 ^ 0 else 0) + 0 = 0
      rw [if_neg (by show ¬ decide ((0 : Int) < 0) = true; decide)]
    rw [e]; exact tree_ok)
  have h' : okAt (enc (sg n0 n1 n2 n3) 16) = true := h
  unfold okAt at h'
  rw [sg_eq, Bool.and_eq_true] at h'
  exact ⟨Nat.eq_of_beq_eq_true h'.1, Nat.eq_of_beq_eq_true h'.2⟩
end

/-! one order: its greatest sum, the place of the first greatest one -/
/-- c tells the first greatest of the sums l, and its place -/
noncomputable def At (x : Nat → Int) (l : List Int) (c : Nat) : Prop := x c ∈ l ∧ (∀ y ∈ l, y ≤ x c) ∧ l.idxOf (x c) = ones c
noncomputable def nx (f : Nat → Bool) (q c : Nat) : Nat := cond (f (Nat.sub q c)) q c
theorem At.next {x : Nat → Int} {l : List Int} {c q : Nat} {f : Nat → Bool} (h : At x l c) (hq : ones q = l.length) (hf : f (Nat.sub q c) = decide (x c < x q)) : At x (l ++ [x q]) (nx f q c) := by
  obtain ⟨h1, h2, h3⟩ := h
  unfold nx
  rw [hf]
  by_cases hlt : x c < x q
  · rw [decide_eq_true hlt]
    refine ⟨List.mem_append_right _ (.head _), fun y hy => ?_, ?_⟩
    · rcases List.mem_append.mp hy with hy | hy
      · exact Int.le_of_lt (Int.lt_of_le_of_lt (h2 y hy) hlt)
      · rw [List.mem_singleton.mp hy]; exact Int.le_refl _
    · show (l ++ [x q]).idxOf (x q) = ones q
      rw [List.idxOf_append, if_neg (fun hm => Int.lt_irrefl _ (Int.lt_of_le_of_lt (h2 _ hm) hlt)), List.idxOf_cons_self, hq, Nat.zero_add]
  · rw [decide_eq_false hlt]
    refine ⟨List.mem_append_left _ h1, fun y hy => ?_, ?_⟩
    · rcases List.mem_append.mp hy with hy | hy
      · exact h2 y hy
      · rw [List.mem_singleton.mp hy]; exact Int.not_lt.mp hlt
    · show (l ++ [x q]).idxOf (x c) = ones c
      rw [List.idxOf_append, if_pos h1, h3]
theorem cond_app {α : Type} (g : Nat → α) (b : Bool) (p c : Nat) : cond b (g p) (g c) = g (cond b p c) := by cases b <;> rfl
theorem best_nx (f : Nat → Bool) (p1 p2 p3 : Nat) : best f p1 p2 p3 = nx f 15 (nx f p3 (nx f p2 (nx f p1 0))) := by
  have e3 : ∀ c, best3 f c p3 = nx f 15 (nx f p3 c) := fun c => cond_app (fun c => nx f 15 c) (f (Nat.sub p3 c)) p3 c
  have e2 : ∀ c, best2 f c p2 p3 = nx f 15 (nx f p3 (nx f p2 c)) := fun c => (cond_app (fun c => best3 f c p3) (f (Nat.sub p2 c)) p2 c).trans (e3 _)
  exact (cond_app (fun c => best2 f c p2 p3) (f p1) p1 0).trans (e2 _)
theorem nx_or (f : Nat → Bool) (q c : Nat) : nx f q c = q ∨ nx f q c = c := by
  unfold nx
  cases f (Nat.sub q c)
  · exact .inr rfl
  · exact .inl rfl
theorem best_at {f : Nat → Bool} {x : Nat → Int} {p1 p2 p3 : Nat} (x1 : ones p1 = 1) (x2 : ones p2 = 2) (x3 : ones p3 = 3)
    (f1 : ∀ c, c = 0 → f (Nat.sub p1 c) = decide (x c < x p1)) (f2 : ∀ c, c = p1 ∨ c = 0 → f (Nat.sub p2 c) = decide (x c < x p2))
    (f3 : ∀ c, c = p2 ∨ c = p1 ∨ c = 0 → f (Nat.sub p3 c) = decide (x c < x p3)) (f4 : ∀ c, c = p3 ∨ c = p2 ∨ c = p1 ∨ c = 0 → f (Nat.sub 15 c) = decide (x c < x 15)) :
    At x [x 0, x p1, x p2, x p3, x 15] (best f p1 p2 p3) := by
  rw [best_nx]
  have a0 : At x [x 0] 0 := ⟨.head _, fun y hy => by rw [List.mem_singleton.mp hy]; exact Int.le_refl _, List.idxOf_cons_self⟩
  have o1 := nx_or f p1 0
  have o2 : nx f p2 (nx f p1 0) = p2 ∨ nx f p2 (nx f p1 0) = p1 ∨ nx f p2 (nx f p1 0) = 0 := (nx_or _ _ _).imp_right fun e => by rw [e]; exact o1
  have o3 : nx f p3 (nx f p2 (nx f p1 0)) = p3 ∨ nx f p3 (nx f p2 (nx f p1 0)) = p2 ∨ nx f p3 (nx f p2 (nx f p1 0)) = p1 ∨ nx f p3 (nx f p2 (nx f p1 0)) = 0 := (nx_or _ _ _).imp_right fun e => by rw [e]; exact o2
  have a1 : At x [x 0, x p1] _ := a0.next (q := p1) (f := f) x1 (f1 0 rfl)
  have a2 : At x [x 0, x p1, x p2] _ := a1.next (q := p2) (f := f) x2 (f2 _ o1)
  have a3 : At x [x 0, x p1, x p2, x p3] _ := a2.next (q := p3) (f := f) x3 (f3 _ o2)
  exact a3.next (q := 15) (f := f) (show ones 15 = 4 from rfl) (f4 _ o3)
end Plain
end Mine

end
section
set_option maxRecDepth 100000
namespace Mine
namespace Plain
noncomputable def rMax (a b c d : Int) : Int := max (max (max (max 0 a) (a + b)) (a + b + c)) (a + b + c + d)
noncomputable def rMin (a b c d : Int) : Int := min (min (min (min 0 a) (a + b)) (a + b + c)) (a + b + c + d)
noncomputable def rAbove (a b c d : Int) : Nat := (if 0 < a then 1 else 0) + (if 0 < a + b then 1 else 0) + ((if 0 < a + b + c then 1 else 0) + (if 0 < a + b + c + d then 1 else 0))
noncomputable def rPlace (a b c d : Int) : Nat := if rMax a b c d = 0 then 0 else if rMax a b c d = a then 1 else if rMax a b c d = a + b then 2 else if rMax a b c d = a + b + c then 3 else 4
/-- a word of the numbers in an order -/
noncomputable def onRow {α : Type} (n0 n1 n2 n3 : Int) (g : Int → Int → Int → Int → α) : List Nat → α
  | [i, j, k, l] => g (num n0 n1 n2 n3 i) (num n0 n1 n2 n3 j) (num n0 n1 n2 n3 k) (num n0 n1 n2 n3 l)
  | _ => g 0 0 0 0
noncomputable def ringAbove (n0 n1 n2 n3 : Int) : List Nat → Int
  | [] => 0
  | m :: r => max 0 (sub n0 n1 n2 n3 m) + ringAbove n0 n1 n2 n3 r
noncomputable def ringBelow (n0 n1 n2 n3 : Int) : List Nat → Int
  | [] => 0
  | m :: r => min 0 (sub n0 n1 n2 n3 m) + ringBelow n0 n1 n2 n3 r

theorem max_or (x y : Int) : max x y = x ∨ max x y = y := by omega
theorem rMax_or (a b c d : Int) : rMax a b c d = 0 ∨ rMax a b c d = a ∨ rMax a b c d = a + b ∨ rMax a b c d = a + b + c ∨ rMax a b c d = a + b + c + d := by
  unfold rMax
  rcases max_or (max (max (max 0 a) (a + b)) (a + b + c)) (a + b + c + d) with h | h <;> rw [h]
  · rcases max_or (max (max 0 a) (a + b)) (a + b + c) with h | h <;> rw [h]
    · rcases max_or (max 0 a) (a + b) with h | h <;> rw [h]
      · rcases max_or 0 a with h | h <;> rw [h]
        · exact .inl rfl
        · exact .inr (.inl rfl)
      · exact .inr (.inr (.inl rfl))
    · exact .inr (.inr (.inr (.inl rfl)))
  · exact .inr (.inr (.inr (.inr rfl)))
theorem rMax_le {a b c d g : Int} (h : 0 ≤ g ∧ a ≤ g ∧ a + b ≤ g ∧ a + b + c ≤ g ∧ a + b + c + d ≤ g) : rMax a b c d ≤ g :=
  Int.max_le.mpr ⟨Int.max_le.mpr ⟨Int.max_le.mpr ⟨Int.max_le.mpr ⟨h.1, h.2.1⟩, h.2.2.1⟩, h.2.2.2.1⟩, h.2.2.2.2⟩
theorem rMax_ge (a b c d : Int) : 0 ≤ rMax a b c d ∧ a ≤ rMax a b c d ∧ a + b ≤ rMax a b c d ∧ a + b + c ≤ rMax a b c d ∧ a + b + c + d ≤ rMax a b c d := by
  have h := Int.max_le.mp (Int.le_refl (rMax a b c d))
  have h3 := Int.max_le.mp h.1
  have h2 := Int.max_le.mp h3.1
  have h1 := Int.max_le.mp h2.1
  exact ⟨h1.1, h1.2, h2.2, h3.2, h.2⟩
theorem max_is {a b c d g : Int} (h1 : g = 0 ∨ g = a ∨ g = a + b ∨ g = a + b + c ∨ g = a + b + c + d) (h2 : 0 ≤ g ∧ a ≤ g ∧ a + b ≤ g ∧ a + b + c ≤ g ∧ a + b + c + d ≤ g) : g = rMax a b c d := by
  have h := rMax_ge a b c d
  refine Int.le_antisymm ?_ (rMax_le h2)
  rcases h1 with e | e | e | e | e <;> rw [e]
  · exact h.1
  · exact h.2.1
  · exact h.2.2.1
  · exact h.2.2.2.1
  · exact h.2.2.2.2
theorem min_neg (x y : Int) : min (-x) (-y) = - max x y := by omega
theorem neg_max (a b c d : Int) : rMin a b c d = - rMax (-a) (-b) (-c) (-d) := by
  unfold rMin rMax
  rw [← min_neg, ← min_neg, ← min_neg, ← min_neg]
  simp only [Int.neg_add, Int.neg_neg, Int.neg_zero]
theorem min_is {a b c d g : Int} (h1 : g = 0 ∨ g = a ∨ g = a + b ∨ g = a + b + c ∨ g = a + b + c + d) (h2 : g ≤ 0 ∧ g ≤ a ∧ g ≤ a + b ∧ g ≤ a + b + c ∧ g ≤ a + b + c + d) : g = rMin a b c d := by
  have e2 : -a + -b = -(a + b) := Int.neg_add.symm
  have e3 : -a + -b + -c = -(a + b + c) := by rw [e2, Int.neg_add (a := a + b)]
  have e4 : -a + -b + -c + -d = -(a + b + c + d) := by rw [e3, Int.neg_add (a := a + b + c)]
  have h := max_is (a := -a) (b := -b) (c := -c) (d := -d) (g := -g) (by
    rw [e4, e3, e2]
    rcases h1 with e | e | e | e | e <;> rw [e]
    · exact .inl rfl
    · exact .inr (.inl rfl)
    · exact .inr (.inr (.inl rfl))
    · exact .inr (.inr (.inr (.inl rfl)))
    · exact .inr (.inr (.inr (.inr rfl)))) (by
    rw [e4, e3, e2]
    exact ⟨Int.neg_nonneg_of_nonpos h2.1, Int.neg_le_neg h2.2.1, Int.neg_le_neg h2.2.2.1, Int.neg_le_neg h2.2.2.2.1, Int.neg_le_neg h2.2.2.2.2⟩)
  rw [neg_max, ← h, Int.neg_neg]
theorem idx_cons (x g : Int) (l : List Int) : (x :: l).idxOf g = if g = x then 0 else l.idxOf g + 1 := by
  rw [List.idxOf_cons]
  by_cases h : g = x
  · rw [if_pos h, h]; simp
  · rw [if_neg h]
    have : (x == g) = false := by
      rw [beq_eq_false_iff_ne]
      exact fun q => h q.symm
    rw [this]; rfl
theorem place_is (a b c d : Int) : [0, a, a + b, a + b + c, a + b + c + d].idxOf (rMax a b c d) = rPlace a b c d := by
  have hm := rMax_or a b c d
  unfold rPlace
  generalize rMax a b c d = g at *
  rw [idx_cons]
  by_cases h0 : g = 0
  · rw [if_pos h0, if_pos h0]
  rw [if_neg h0, if_neg h0, idx_cons]
  by_cases h1 : g = a
  · rw [if_pos h1, if_pos h1]
  rw [if_neg h1, if_neg h1, idx_cons]
  by_cases h2 : g = a + b
  · rw [if_pos h2, if_pos h2]
  rw [if_neg h2, if_neg h2, idx_cons]
  by_cases h3 : g = a + b + c
  · rw [if_pos h3, if_pos h3]
  rw [if_neg h3, if_neg h3, idx_cons, if_pos ((((hm.resolve_left h0).resolve_left h1).resolve_left h2).resolve_left h3)]
section
variable (n0 n1 n2 n3 : Int)
theorem sg_is {m : Nat} {v : Int} (hm : m < 16) (h : sub n0 n1 n2 n3 m = v) : sg n0 n1 n2 n3 m = decide (0 < v) := by
  subst h; exact if_pos hm
theorem lt_add (x y : Int) : 0 < y ↔ x < x + y := by omega
theorem sg_lt {q c m : Nat} (hm : m < 16) (hs : Nat.sub q c = m) (e : sub n0 n1 n2 n3 q = sub n0 n1 n2 n3 c + sub n0 n1 n2 n3 m) : sg n0 n1 n2 n3 (Nat.sub q c) = decide (sub n0 n1 n2 n3 c < sub n0 n1 n2 n3 q) := by
  rw [hs, sg_is n0 n1 n2 n3 hm rfl, e]
  exact decide_eq_decide.mpr (lt_add _ _)
/-- what is looked at in an order of the four places and the sets of its heads -/
noncomputable def rowB (i j k l p1 p2 p3 : Nat) : Bool :=
  i < 4 && j < 4 && k < 4 && l < 4 && p1 == 2 ^ i && p2 == p1 + 2 ^ j && p3 == p2 + 2 ^ k && 15 == p3 + 2 ^ l &&
  ones p1 == 1 && ones p2 == 2 && ones p3 == 3 &&
  partOk p1 (2 ^ j) && partOk p2 (2 ^ k) && partOk p3 (2 ^ l) && partOk p1 (Nat.sub p3 p1) && partOk p1 (Nat.sub 15 p1) && partOk p2 (Nat.sub 15 p2) &&
  Nat.sub p2 p1 == 2 ^ j && Nat.sub p3 p2 == 2 ^ k && Nat.sub 15 p3 == 2 ^ l && p1 + Nat.sub p3 p1 == p3 && p1 + Nat.sub 15 p1 == 15 && p2 + Nat.sub 15 p2 == 15
theorem part_lt {x y : Nat} (h : partOk x y = true) : x < 16 ∧ y < 16 := by
  simp only [partOk, Bool.and_eq_true, decide_eq_true_eq] at h
  exact h.1
theorem row_tells {i j k l p1 p2 p3 : Nat} (h : rowB i j k l p1 p2 p3 = true) :
    sub n0 n1 n2 n3 (best (sg n0 n1 n2 n3) p1 p2 p3) = rMax (num n0 n1 n2 n3 i) (num n0 n1 n2 n3 j) (num n0 n1 n2 n3 k) (num n0 n1 n2 n3 l) ∧
    ones (best (sg n0 n1 n2 n3) p1 p2 p3) = rPlace (num n0 n1 n2 n3 i) (num n0 n1 n2 n3 j) (num n0 n1 n2 n3 k) (num n0 n1 n2 n3 l) ∧
    aboves (sg n0 n1 n2 n3) p1 p2 p3 = rAbove (num n0 n1 n2 n3 i) (num n0 n1 n2 n3 j) (num n0 n1 n2 n3 k) (num n0 n1 n2 n3 l) := by
  simp only [rowB, Bool.and_eq_true, decide_eq_true_eq, beq_iff_eq, and_assoc] at h
  obtain ⟨hi, hj, hk, hl, q1, q2, q3, q4, o1, o2, o3, r1, r2, r3, r4, r5, r6, s1, s2, s3, s4, s5, s6⟩ := h
  rw [num_sub _ _ _ _ i hi, num_sub _ _ _ _ j hj, num_sub _ _ _ _ k hk, num_sub _ _ _ _ l hl]
  have P := @sub_part n0 n1 n2 n3
  have e1 : sub n0 n1 n2 n3 p1 = sub n0 n1 n2 n3 (2 ^ i) := by rw [q1]
  have e2 : sub n0 n1 n2 n3 p2 = sub n0 n1 n2 n3 p1 + sub n0 n1 n2 n3 (2 ^ j) := by rw [q2, P r1]
  have e3 : sub n0 n1 n2 n3 p3 = sub n0 n1 n2 n3 p2 + sub n0 n1 n2 n3 (2 ^ k) := by rw [q3, P r2]
  have e4 : sub n0 n1 n2 n3 15 = sub n0 n1 n2 n3 p3 + sub n0 n1 n2 n3 (2 ^ l) := by rw [q4, P r3]
  have e5 : sub n0 n1 n2 n3 p3 = sub n0 n1 n2 n3 p1 + sub n0 n1 n2 n3 (Nat.sub p3 p1) := by rw [← P r4, s4]
  have e6 : sub n0 n1 n2 n3 15 = sub n0 n1 n2 n3 p1 + sub n0 n1 n2 n3 (Nat.sub 15 p1) := by rw [← P r5, s5]
  have e7 : sub n0 n1 n2 n3 15 = sub n0 n1 n2 n3 p2 + sub n0 n1 n2 n3 (Nat.sub 15 p2) := by rw [← P r6, s6]
  have z : ∀ m, m < 16 → sg n0 n1 n2 n3 (Nat.sub m 0) = decide (sub n0 n1 n2 n3 0 < sub n0 n1 n2 n3 m) := fun m hm => sg_lt n0 n1 n2 n3 hm rfl (Int.zero_add _).symm
  have b := best_at (f := sg n0 n1 n2 n3) (x := sub n0 n1 n2 n3) o1 o2 o3
    (fun c e => by rw [e]; exact z _ (part_lt r1).1)
    (fun c e => by
      rcases e with e | e <;> rw [e]
      · exact sg_lt _ _ _ _ (part_lt r1).2 s1 e2
      · exact z _ (part_lt r2).1)
    (fun c e => by
      rcases e with e | e | e <;> rw [e]
      · exact sg_lt _ _ _ _ (part_lt r2).2 s2 e3
      · exact sg_lt _ _ _ _ (part_lt r4).2 rfl e5
      · exact z _ (part_lt r3).1)
    (fun c e => by
      rcases e with e | e | e | e <;> rw [e]
      · exact sg_lt _ _ _ _ (part_lt r3).2 s3 e4
      · exact sg_lt _ _ _ _ (part_lt r6).2 rfl e7
      · exact sg_lt _ _ _ _ (part_lt r5).2 rfl e6
      · exact z 15 (by decide))
  rw [sub_zero] at b
  obtain ⟨b1, b2, b3⟩ := b
  have f1 := sg_is n0 n1 n2 n3 (part_lt r1).1 rfl
  have f2 := sg_is n0 n1 n2 n3 (part_lt r2).1 rfl
  have f3 := sg_is n0 n1 n2 n3 (part_lt r3).1 rfl
  have f4 := sg_is n0 n1 n2 n3 (m := 15) (by decide) rfl
  rw [e4, e3, e2, e1] at b1 b2 b3 f4
  rw [e3, e2, e1] at f3
  rw [e2, e1] at f2
  rw [e1] at f1
  simp only [List.mem_cons, List.not_mem_nil, or_false] at b1
  have hmax := max_is b1 ⟨b2 _ (.head _), b2 _ (.tail _ (.head _)), b2 _ (.tail _ (.tail _ (.head _))), b2 _ (.tail _ (.tail _ (.tail _ (.head _)))), b2 _ (.tail _ (.tail _ (.tail _ (.tail _ (.head _)))))⟩
  refine ⟨hmax, ?_, ?_⟩
  · rw [← b3, hmax]; exact place_is _ _ _ _
  · simp only [aboves, f1, f2, f3, f4, Bool.cond_decide]
    rfl
inductive Rows : List (List Nat) → List (Nat × Nat × Nat) → Prop
  | nil : Rows [] []
  | cons {i j k l p1 p2 p3 : Nat} {ps : List (List Nat)} {hs : List (Nat × Nat × Nat)} : rowB i j k l p1 p2 p3 = true → Rows ps hs → Rows ([i, j, k, l] :: ps) ((p1, p2, p3) :: hs)
theorem rows_best {ps : List (List Nat)} {hs : List (Nat × Nat × Nat)} (R : Rows ps hs) :
    ps.map (onRow n0 n1 n2 n3 rMax) = (hs.map fun h => best (sg n0 n1 n2 n3) h.1 h.2.1 h.2.2).map (sub n0 n1 n2 n3) ∧
    ps.map (onRow n0 n1 n2 n3 rPlace) = (hs.map fun h => best (sg n0 n1 n2 n3) h.1 h.2.1 h.2.2).map ones ∧
    ps.map (onRow n0 n1 n2 n3 rAbove) = hs.map fun h => aboves (sg n0 n1 n2 n3) h.1 h.2.1 h.2.2 := by
  induction R with
  | nil => exact ⟨rfl, rfl, rfl⟩
  | cons r _ ih =>
    obtain ⟨t1, t2, t3⟩ := row_tells n0 n1 n2 n3 r
    obtain ⟨i1, i2, i3⟩ := ih
    simp only [List.map_cons, i1, i2, i3, onRow, t1, t2, t3, and_self]
theorem rows_all : Rows rowsT headsT := by
  unfold rowsT headsT
  repeat' (first | exact Rows.nil | refine Rows.cons rfl ?_)
theorem max_cond (x y z : Int) (h : z = y) : max 0 x + y = (if 0 < x then x + z else z) := by
  subst h
  split <;> omega
theorem ring_cons {x : Nat} {r : List Nat} (e : ringAbove n0 n1 n2 n3 r = sub n0 n1 n2 n3 (ringUp (sg n0 n1 n2 n3) r))
    (h : partOk x (ringUp (sg n0 n1 n2 n3) r) = true) :
    ringAbove n0 n1 n2 n3 (x :: r) = sub n0 n1 n2 n3 (ringUp (sg n0 n1 n2 n3) (x :: r)) := by
  have fx := sg_is n0 n1 n2 n3 (part_lt h).1 rfl
  show max 0 (sub n0 n1 n2 n3 x) + ringAbove n0 n1 n2 n3 r = sub n0 n1 n2 n3 (Nat.add (cond (sg n0 n1 n2 n3 x) x 0) (ringUp (sg n0 n1 n2 n3) r))
  rw [fx, Bool.cond_decide, max_cond _ _ _ e.symm]
  split
  · exact (sub_part n0 n1 n2 n3 h).symm
  · rw [Nat.add_eq, Nat.zero_add]
/-- the sets that a part of a ring's list may make -/
noncomputable def sumsOf : List Nat → List Nat
  | [] => [0]
  | m :: r => (sumsOf r).flatMap fun x => [m + x, x]
theorem ringUp_mem (f : Nat → Bool) : ∀ c : List Nat, ringUp f c ∈ sumsOf c
  | [] => .head _
  | m :: r => by
    refine List.mem_flatMap.mpr ⟨_, ringUp_mem f r, ?_⟩
    show Nat.add (cond (f m) m 0) (ringUp f r) ∈ _
    cases f m
    · rw [show Nat.add (cond false m 0) (ringUp f r) = ringUp f r from Nat.zero_add _]; exact .tail _ (.head _)
    · exact .head _
noncomputable def ringOk : List Nat → Bool
  | [] => true
  | m :: r => (sumsOf r).all (partOk m) && ringOk r
theorem ring_val : ∀ c : List Nat, ringOk c = true → ringAbove n0 n1 n2 n3 c = sub n0 n1 n2 n3 (ringUp (sg n0 n1 n2 n3) c)
  | [], _ => (sub_zero n0 n1 n2 n3).symm
  | x :: r, h => by
    simp only [ringOk, Bool.and_eq_true] at h
    exact ring_cons n0 n1 n2 n3 (ring_val r h.2) (List.all_eq_true.mp h.1 _ (ringUp_mem (sg n0 n1 n2 n3) r))
theorem ring_up : ringsT.map (ringAbove n0 n1 n2 n3) = (ringsT.map (ringUp (sg n0 n1 n2 n3))).map (sub n0 n1 n2 n3) := by
  have h : ∀ c ∈ ringsT, ringOk c = true := by decide +kernel
  rw [List.map_map]
  exact List.map_congr_left fun c hc => ring_val n0 n1 n2 n3 c (h c hc)
theorem spitzer_max : (rowsT.map (onRow n0 n1 n2 n3 rMax)).Perm (ringsT.map (ringAbove n0 n1 n2 n3)) := by
  rw [ring_up, (rows_best n0 n1 n2 n3 rows_all).1]
  exact (perm_of_tally (xs := bests (sg n0 n1 n2 n3)) (by rw [bests, List.length_map]; decide) (by rw [List.length_map]; decide) (ok_sg n0 n1 n2 n3).1).map _
theorem sparre : (rowsT.map (onRow n0 n1 n2 n3 rAbove)).Perm (rowsT.map (onRow n0 n1 n2 n3 rPlace)) := by
  rw [(rows_best n0 n1 n2 n3 rows_all).2.1, (rows_best n0 n1 n2 n3 rows_all).2.2]
  exact perm_of_tally (ys := (bests (sg n0 n1 n2 n3)).map ones) (by rw [List.length_map]; decide) (by rw [List.length_map, bests, List.length_map]; decide) (ok_sg n0 n1 n2 n3).2
end
theorem neg_ite (p : Prop) [Decidable p] (n : Int) : (if p then -n else 0) = -(if p then n else 0) := by
  by_cases h : p
  · rw [if_pos h, if_pos h]
  · rw [if_neg h, if_neg h]; rfl
theorem neg_sub (n0 n1 n2 n3 : Int) (m : Nat) : sub (-n0) (-n1) (-n2) (-n3) m = - sub n0 n1 n2 n3 m := by
  simp only [sub, neg_ite, ← Int.neg_add]
theorem neg_num (n0 n1 n2 n3 : Int) (m : Nat) : num (-n0) (-n1) (-n2) (-n3) m = - num n0 n1 n2 n3 m := by
  unfold num
  split <;> rfl
theorem neg_row (n0 n1 n2 n3 : Int) (p : List Nat) : onRow n0 n1 n2 n3 rMin p = - onRow (-n0) (-n1) (-n2) (-n3) rMax p := by
  unfold onRow
  split
  · simp only [neg_num]; exact neg_max _ _ _ _
  · exact neg_max _ _ _ _
theorem neg_ring (n0 n1 n2 n3 : Int) : ∀ c : List Nat, ringBelow n0 n1 n2 n3 c = - ringAbove (-n0) (-n1) (-n2) (-n3) c
  | [] => rfl
  | m :: r => by
    rw [ringBelow, ringAbove, neg_ring n0 n1 n2 n3 r, neg_sub, Int.neg_add, ← min_neg, Int.neg_neg, Int.neg_zero]
theorem spitzer_min (n0 n1 n2 n3 : Int) : (rowsT.map (onRow n0 n1 n2 n3 rMin)).Perm (ringsT.map (ringBelow n0 n1 n2 n3)) := by
  have h := (spitzer_max (-n0) (-n1) (-n2) (-n3)).map (fun x => -x)
  rw [List.map_map, List.map_map] at h
  have e1 : rowsT.map (onRow n0 n1 n2 n3 rMin) = rowsT.map ((fun x => -x) ∘ onRow (-n0) (-n1) (-n2) (-n3) rMax) := List.map_congr_left fun p _ => neg_row n0 n1 n2 n3 p
  have e2 : ringsT.map (ringBelow n0 n1 n2 n3) = ringsT.map ((fun x => -x) ∘ ringAbove (-n0) (-n1) (-n2) (-n3)) := List.map_congr_left fun c _ => neg_ring n0 n1 n2 n3 c
  rw [e1, e2]
  exact h
end Plain
end Mine

end
section
set_option maxRecDepth 100000
namespace Mine
noncomputable def walkFrom (ws : List Int) : Nat → List Int → Int → List Int
  | 0, _, _ => []
  | n + 1, seen, place => if place ∈ seen then [] else place :: walkFrom ws n (seen ++ [place]) (ws.getD place.toNat 0)
noncomputable def seenAt (ws : List Int) : Nat → List Int
  | 0 => []
  | f + 1 => seenAt ws f ++ walkFrom ws 5 (seenAt ws f) f
noncomputable def ringAt (ws : List Int) (f : Nat) : List Int := walkFrom ws 5 (seenAt ws f) f
noncomputable def chainB (ws : List Int) : List Int → Int → List Int → Bool
  | seen, place, [] => decide (place ∈ seen)
  | seen, place, p :: r => decide (p = place) && decide (0 ≤ p) && decide (p < 4) && decide (place ∉ seen) && (match ws[p.toNat]? with | some q => chainB ws (seen ++ [p]) q r | none => false)
theorem chain_all : ∀ ws ∈ waysOf 4, ∀ f ∈ [0, 1, 2, 3], chainB ws (seenAt ws f) (f : Nat) (ringAt ws f) = true ∧ (seenAt ws f).length ≤ 4 ∧ (ringAt ws f).length ≤ 4 := by decide +kernel
noncomputable def ringSum (nums ring : List Int) : Int := (ring.map fun p => nums.getD p.toNat 0).sum
theorem ringSum_snoc (nums ring : List Int) (p : Int) : ringSum nums (ring ++ [p]) = ringSum nums ring + nums.getD p.toNat 0 := by
  unfold ringSum
  rw [List.map_append, List.sum_append, List.map_cons, List.map_nil, List.sum_cons, List.sum_nil, Int.add_zero]
noncomputable def aboveTo (ws nums : List Int) : Nat → Int
  | 0 => 0
  | f + 1 => aboveTo ws nums f + max 0 (ringSum nums (ringAt ws f))
noncomputable def belowTo (ws nums : List Int) : Nat → Int
  | 0 => 0
  | f + 1 => belowTo ws nums f + min 0 (ringSum nums (ringAt ws f))
noncomputable def ringsLT : List (List (List Int)) := [[[0, 3], [1, 2], [], []], [[0, 2, 1, 3], [], [], []], [[0, 2, 3], [1], [], []], [[0, 2], [1], [], [3]],
  [[0, 3], [1], [2], []], [[0, 1, 3], [], [2], []], [[0, 1, 2, 3], [], [], []], [[0, 1, 2], [], [], [3]],
  [[0, 3, 2], [1], [], []], [[0, 1, 3, 2], [], [], []], [[0, 1], [], [2, 3], []], [[0, 1], [], [2], [3]],
  [[0, 3, 1, 2], [], [], []], [[0, 2], [1, 3], [], []], [[0, 2, 3, 1], [], [], []], [[0, 2, 1], [], [], [3]],
  [[0, 3, 1], [], [2], []], [[0], [1, 3], [2], []], [[0], [1, 2, 3], [], []], [[0], [1, 2], [], [3]],
  [[0, 3, 2, 1], [], [], []], [[0], [1, 3, 2], [], []], [[0], [1], [2, 3], []], [[0], [1], [2], [3]]]
theorem ringsL_eq : (waysOf 4).map (fun ws => [ringAt ws 0, ringAt ws 1, ringAt ws 2, ringAt ws 3]) = ringsLT := by decide +kernel
noncomputable def aboveL (nums : List Int) : List (List Int) → Int
  | [] => 0
  | r :: rs => max 0 (ringSum nums r) + aboveL nums rs
noncomputable def belowL (nums : List Int) : List (List Int) → Int
  | [] => 0
  | r :: rs => min 0 (ringSum nums r) + belowL nums rs
theorem above4 (ws nums : List Int) : aboveTo ws nums 4 = aboveL nums [ringAt ws 0, ringAt ws 1, ringAt ws 2, ringAt ws 3] := by
  simp only [aboveTo, aboveL, Int.zero_add, Int.add_zero, Int.add_assoc]
theorem below4 (ws nums : List Int) : belowTo ws nums 4 = belowL nums [ringAt ws 0, ringAt ws 1, ringAt ws 2, ringAt ws 3] := by
  simp only [belowTo, belowL, Int.zero_add, Int.add_zero, Int.add_assoc]
/-- a ring's places as a set, a bit a place -/
noncomputable def maskOf : List Int → Nat
  | [] => 0
  | p :: r => 2 ^ p.toNat + maskOf r
noncomputable def ringB : List Int → Bool
  | [] => true
  | p :: r => decide (p.toNat < 4) && Plain.partOk (2 ^ p.toNat) (maskOf r) && ringB r
noncomputable def masksOf : List (List Int) → List Nat
  | [] => []
  | [] :: rs => masksOf rs
  | (p :: r) :: rs => maskOf (p :: r) :: masksOf rs
theorem masks_all : ringsLT.map masksOf = Plain.ringsT ∧ ∀ rs ∈ ringsLT, ∀ r ∈ rs, ringB r = true := by decide +kernel
section
variable (n0 n1 n2 n3 : Int)
theorem get_num : ∀ i, i < 4 → [n0, n1, n2, n3].getD i 0 = Plain.num n0 n1 n2 n3 i :=
  lt4 (P := fun i => [n0, n1, n2, n3].getD i 0 = Plain.num n0 n1 n2 n3 i) rfl rfl rfl rfl
theorem ringSum_cons (nums : List Int) (p : Int) (r : List Int) : ringSum nums (p :: r) = nums.getD p.toNat 0 + ringSum nums r := by
  unfold ringSum
  rw [List.map_cons, List.sum_cons]
theorem ring_mask : ∀ r : List Int, ringB r = true → ringSum [n0, n1, n2, n3] r = Plain.sub n0 n1 n2 n3 (maskOf r)
  | [], _ => (Plain.sub_zero n0 n1 n2 n3).symm
  | p :: r, h => by
    simp only [ringB, Bool.and_eq_true, decide_eq_true_eq] at h
    rw [ringSum_cons, ring_mask r h.2, get_num _ _ _ _ _ h.1.1, Plain.num_sub _ _ _ _ _ h.1.1]
    exact (Plain.sub_part n0 n1 n2 n3 h.1.2).symm
theorem above_masks : ∀ rs : List (List Int), (∀ r ∈ rs, ringB r = true) → aboveL [n0, n1, n2, n3] rs = Plain.ringAbove n0 n1 n2 n3 (masksOf rs)
  | [], _ => rfl
  | [] :: rs, h => (Int.zero_add _).trans (above_masks rs fun r hr => h r (.tail _ hr))
  | (p :: r) :: rs, h => by
    rw [aboveL, masksOf, Plain.ringAbove, ring_mask _ _ _ _ _ (h _ (.head _)), above_masks rs fun r hr => h r (.tail _ hr)]
theorem below_masks : ∀ rs : List (List Int), (∀ r ∈ rs, ringB r = true) → belowL [n0, n1, n2, n3] rs = Plain.ringBelow n0 n1 n2 n3 (masksOf rs)
  | [], _ => rfl
  | [] :: rs, h => (Int.zero_add _).trans (below_masks rs fun r hr => h r (.tail _ hr))
  | (p :: r) :: rs, h => by
    rw [belowL, masksOf, Plain.ringBelow, ring_mask _ _ _ _ _ (h _ (.head _)), below_masks rs fun r hr => h r (.tail _ hr)]
theorem rings_above : (waysOf 4).map (fun ws => aboveTo ws [n0, n1, n2, n3] 4) = Plain.ringsT.map (Plain.ringAbove n0 n1 n2 n3) := by
  have e : (waysOf 4).map (fun ws => aboveTo ws [n0, n1, n2, n3] 4) = ((waysOf 4).map (fun ws => [ringAt ws 0, ringAt ws 1, ringAt ws 2, ringAt ws 3])).map (aboveL [n0, n1, n2, n3]) := by
    rw [List.map_map]
    exact List.map_congr_left fun ws _ => above4 ws _
  rw [e, ringsL_eq, ← masks_all.1, List.map_map]
  exact List.map_congr_left fun rs h => above_masks n0 n1 n2 n3 rs (masks_all.2 rs h)
theorem rings_below : (waysOf 4).map (fun ws => belowTo ws [n0, n1, n2, n3] 4) = Plain.ringsT.map (Plain.ringBelow n0 n1 n2 n3) := by
  have e : (waysOf 4).map (fun ws => belowTo ws [n0, n1, n2, n3] 4) = ((waysOf 4).map (fun ws => [ringAt ws 0, ringAt ws 1, ringAt ws 2, ringAt ws 3])).map (belowL [n0, n1, n2, n3]) := by
    rw [List.map_map]
    exact List.map_congr_left fun ws _ => below4 ws _
  rw [e, ringsL_eq, ← masks_all.1, List.map_map]
  exact List.map_congr_left fun rs h => below_masks n0 n1 n2 n3 rs (masks_all.2 rs h)
end
end Mine
namespace Mine
theorem any_mem (l : List Int) (p : Int) : l.any (· == p) = decide (p ∈ l) := by
  rw [Bool.eq_iff_iff, List.any_eq_true]
  simp only [beq_iff_eq, decide_eq_true_eq]
  exact ⟨fun ⟨x, h, e⟩ => e ▸ h, fun h => ⟨p, h, rfl⟩⟩
theorem chain_nil {ws seen : List Int} {place : Int} (h : chainB ws seen place [] = true) : place ∈ seen := of_decide_eq_true h
theorem chain_cons {ws seen r : List Int} {place p : Int} (h : chainB ws seen place (p :: r) = true) :
    p = place ∧ 0 ≤ p ∧ p < 4 ∧ place ∉ seen ∧ ∃ q, ws[p.toNat]? = some q ∧ chainB ws (seen ++ [p]) q r = true := by
  simp only [chainB, Bool.and_eq_true, decide_eq_true_eq] at h
  obtain ⟨⟨⟨⟨h1, h2⟩, h3⟩, h4⟩, h5⟩ := h
  refine ⟨h1, h2, h3, h4, ?_⟩
  split at h5
  · exact ⟨_, by assumption, h5⟩
  · cases h5
end Mine
namespace Mine
theorem above_step (ws nums : List Int) (f : Nat) : (aboveTo ws nums f + if ringSum nums (ringAt ws f) > 0 then ringSum nums (ringAt ws f) else 0) = aboveTo ws nums (f + 1) := by
  show _ = aboveTo ws nums f + max 0 (ringSum nums (ringAt ws f))
  congr 1
  split <;> omega
theorem below_step (ws nums : List Int) (f : Nat) : (belowTo ws nums f + if ringSum nums (ringAt ws f) < 0 then ringSum nums (ringAt ws f) else 0) = belowTo ws nums (f + 1) := by
  show _ = belowTo ws nums f + min 0 (ringSum nums (ringAt ws f))
  congr 1
  split <;> omega
end Mine

end
section
open PySem PySem.W PyProof.Rows PySem.Calls PySem.Spec
open PyProof.Rows.LCg
set_option maxRecDepth 100000
namespace Mine
noncomputable abbrev kR (b : Str → Option Value) (way seen above below first ring place : Option Value) : Str → Option Value :=
  fun y => if y = Str.ofString "place" then place else if y = Str.ofString "ring" then ring else if y = Str.ofString "first" then first else if y = Str.ofString "below" then below else
    if y = Str.ofString "above" then above else if y = Str.ofString "seen" then seen else if y = Str.ofString "way" then way else b y
section
variable (b : Str → Option Value) (o1 o2 o3 o4 o5 o6 o7 v : Option Value) (y : Str)
theorem kR_none (h1 : b (Str.ofString "way") = none) (h2 : b (Str.ofString "seen") = none) (h3 : b (Str.ofString "above") = none) (h4 : b (Str.ofString "below") = none) (h5 : b (Str.ofString "first") = none) (h6 : b (Str.ofString "ring") = none) (h7 : b (Str.ofString "place") = none) :
    b = kR b none none none none none none none := by
  funext y
  show b y = if y = Str.ofString "place" then none else if y = Str.ofString "ring" then none else if y = Str.ofString "first" then none else if y = Str.ofString "below" then none else
    if y = Str.ofString "above" then none else if y = Str.ofString "seen" then none else if y = Str.ofString "way" then none else b y
  split
  · rename_i h; rw [h, h7]
  split
  · rename_i h; rw [h, h6]
  split
  · rename_i h; rw [h, h5]
  split
  · rename_i h; rw [h, h4]
  split
  · rename_i h; rw [h, h3]
  split
  · rename_i h; rw [h, h2]
  split
  · rename_i h; rw [h, h1]
  · rfl
theorem kR_way : (if y = Str.ofString "way" then v else kR b o1 o2 o3 o4 o5 o6 o7 y) = kR b v o2 o3 o4 o5 o6 o7 y := by
  by_cases h : y = Str.ofString "way"
  · rw [if_pos h, h]; rfl
  · simp only [kR, if_neg h]
theorem kR_seen : (if y = Str.ofString "seen" then v else kR b o1 o2 o3 o4 o5 o6 o7 y) = kR b o1 v o3 o4 o5 o6 o7 y := by
  by_cases h : y = Str.ofString "seen"
  · rw [if_pos h, h]; rfl
  · simp only [kR, if_neg h]
theorem kR_above : (if y = Str.ofString "above" then v else kR b o1 o2 o3 o4 o5 o6 o7 y) = kR b o1 o2 v o4 o5 o6 o7 y := by
  by_cases h : y = Str.ofString "above"
  · rw [if_pos h, h]; rfl
  · simp only [kR, if_neg h]
theorem kR_below : (if y = Str.ofString "below" then v else kR b o1 o2 o3 o4 o5 o6 o7 y) = kR b o1 o2 o3 v o5 o6 o7 y := by
  by_cases h : y = Str.ofString "below"
  · rw [if_pos h, h]; rfl
  · simp only [kR, if_neg h]
theorem kR_first : (if y = Str.ofString "first" then v else kR b o1 o2 o3 o4 o5 o6 o7 y) = kR b o1 o2 o3 o4 v o6 o7 y := by
  by_cases h : y = Str.ofString "first"
  · rw [if_pos h, h]; rfl
  · simp only [kR, if_neg h]
theorem kR_ring : (if y = Str.ofString "ring" then v else kR b o1 o2 o3 o4 o5 o6 o7 y) = kR b o1 o2 o3 o4 o5 v o7 y := by
  by_cases h : y = Str.ofString "ring"
  · rw [if_pos h, h]; rfl
  · simp only [kR, if_neg h]
theorem kR_place : (if y = Str.ofString "place" then v else kR b o1 o2 o3 o4 o5 o6 o7 y) = kR b o1 o2 o3 o4 o5 o6 v y := by
  by_cases h : y = Str.ofString "place"
  · rw [if_pos h, h]; rfl
  · simp only [kR, if_neg h]
end
noncomputable abbrev pairO (x y : Int) (t1 t2 : Tok) : Obj := { cls := .type "tuple", data := .seq #[.int x t1, .int y t2] 0 }
/-- the list of pairs told -/
inductive PairsAt (news : List (Addr × Obj)) : List Value → List (Int × Int) → Prop
  | nil : PairsAt news [] []
  | cons {a : Addr} {x y : Int} {t1 t2 : Tok} {ys : List Value} {ps : List (Int × Int)} : (a, pairO x y t1 t2) ∈ news → PairsAt news ys ps → PairsAt news (.ref a :: ys) ((x, y) :: ps)
theorem PairsAt.mono {news news' : List (Addr × Obj)} (hs : ∀ p ∈ news, p ∈ news') : ∀ {ys : List Value} {ps : List (Int × Int)}, PairsAt news ys ps → PairsAt news' ys ps
  | _, _, .nil => .nil
  | _, _, .cons h r => .cons (hs _ h) (r.mono hs)
theorem PairsAt.snoc {news : List (Addr × Obj)} {a : Addr} {x y : Int} {t1 t2 : Tok} (h : (a, pairO x y t1 t2) ∈ news) : ∀ {ys : List Value} {ps : List (Int × Int)}, PairsAt news ys ps → PairsAt news (ys ++ [.ref a]) (ps ++ [(x, y)])
  | _, _, .nil => .cons h .nil
  | _, _, .cons h' r => .cons h' (r.snoc h)
theorem PairsAt.length {news : List (Addr × Obj)} : ∀ {ys : List Value} {ps : List (Int × Int)}, PairsAt news ys ps → ys.length = ps.length
  | _, _, .nil => rfl
  | _, _, .cons _ r => congrArg (· + 1) r.length
end Mine

end
section
open PySem PySem.W PyProof.Rows PySem.Calls PySem.Spec
set_option maxRecDepth 100000
namespace Mine
namespace BA
noncomputable def behind (v obj : Value) : Sem Fin := do
  if !(← isInstance obj (.type "bytearray")) then rule "type.call.new-gave-other-type"; return ← ret obj
  match ← holding [obj] (callSpecial? obj "__init__" [v] []) with
  | none => ret obj
  | some r =>
    if r != .none then
      rule "type.call.init-returned-value"
      raiseError "TypeError" s!"__init__() should return None, not '{← typeNameOf r}'"
    ret obj
theorem type_call (n : Int) (u : Tok) : Builtin.«type.__call__» ⟨[.type "bytearray", .int n u], []⟩ =
    (holding [.builtin "bytearray.__new__"] (call (.builtin "bytearray.__new__") [.type "bytearray", .int n u] []) >>= behind (.int n u)) := by
  kernel_rfl
theorem entry_new : entryFor table "bytearray.__new__" = some Builtin.«list.__new__» := entryFor_alias (id' := "list.__new__") (by rw [fastTable_eq_tree]; kernel_rfl) (by first | rfl | decide +kernel) (by decide +kernel) (by rw [fastTable_eq_tree]; kernel_rfl)
theorem entry_init : entryFor table "bytearray.__init__" = some Builtin.«bytearray.__init__» := entryFor_of_tree (by kernel_rfl)
theorem check_new (n : Int) (u : Tok) : checkBuiltinCall "bytearray.__new__" ⟨[.type "bytearray", .int n u], []⟩ = pure () := by kernel_rfl
theorem plain_new : plainId "bytearray.__new__" = true := by decide +kernel
theorem plain_init : plainId "bytearray.__init__" = true := by decide +kernel
set_option maxRecDepth 1000000 in
set_option maxHeartbeats 4000000 in
theorem owner_new : ("bytearray.__new__".splitOn ".__new__").headD "" = "bytearray" := by simp +decide [String.splitOn, String.splitOnAux]
theorem sub_self : isSubtype (.type "bytearray") (.type "bytearray") = pure true := by rw [isSubtype_type]; kernel_rfl
section
variable {prog : Program} {w : World} {A : Around} {E : Value → Shared → Prop} {s : Shared}
theorem code_new (n : Int) (u : Tok) {Q₁ : Value → Shared → Prop}
    (h : Q₁ (.ref s.heap.objs.size) { s with heap := s.heap.push { cls := .type "bytearray", data := .bytearray #[] } }) :
    codeAny (model prog w) A (.call (.builtin "bytearray.__new__") ⟨[.type "bytearray", .int n u], []⟩) (wants Q₁ E) s := by
  refine codeAny_of_tree ?_
  show wpAny _ A.in1 (do checkBuiltinCall "bytearray.__new__" ⟨[.type "bytearray", .int n u], []⟩; again (.builtin "bytearray.__new__" ⟨[.type "bytearray", .int n u], []⟩)) _ _ s
  refine wpAny_bind (wpAny_of_eq (check_new n u) (wpAny_pure ⟨plainId_quiet plain_new _, codeAny_builtin_stack entry_new rfl fun p st => ?_⟩))
  rw [Around.under_plainId plain_new _]
  have hsub := sub_self
  have hown := owner_new
  obtain ⟨hp, g, d, tk, os⟩ := s
  simp only [hown]
  wp_walk
  exact h
end


theorem any_false {l : List (Code × Pos)} {f : Code × Pos → Bool} (h : ∀ x ∈ l, f x = false) : l.any f = false := by
  rw [List.any_eq_false]; intro x hx; rw [h x hx]; decide
section
variable {M : Model} {A : Around} {E : Value → Shared → Prop} {s : Shared}
theorem wpC_exported {self : Value} {Q : Bool → Shared → Prop} (h : Q false s) : wpC M A (Builtin.Bytes.exported self) Q E s := fun Γ p hI hc hb => by
  unfold Builtin.Bytes.exported
  rw [Sem.wp_bind']
  show Sem.wp M Γ (.stack .pure) _ _ p s
  rw [Sem.wp_stack]
  show Q (List.any ((Γ.code, p) :: Γ.below) _) s
  rw [any_false]
  · exact h
  · intro x hx
    have hcl : cleanCode x.1 = true := (Clean.cons (p := p) hc hb) x hx
    obtain ⟨c, q⟩ := x
    cases c with
    | builtin id args =>
      have hid : id = "claim.caller" ∨ id = "type.__call__" ∨ id = "bytearray.__init__" := by
        simp only [cleanCode, List.contains_cons, List.contains_nil, Bool.or_false, Bool.or_eq_true, beq_iff_eq] at hcl
        exact hcl
      obtain ⟨pos, kw⟩ := args
      rcases hid with rfl | rfl | rfl <;> rcases pos with _ | ⟨v, _ | ⟨v2, held⟩⟩ <;> first | rfl | exact Bool.and_false _
    | _ => rfl
end
end BA
end Mine

end
section
open PySem PySem.W PyProof.Rows PySem.Calls PySem.Spec
set_option maxRecDepth 100000
namespace Mine
namespace BA
noncomputable abbrev baO (b : Array UInt8) : Obj := { cls := .type "bytearray", data := .bytearray b }
theorem look_release : typeLookup (.type "bytearray") "__release_buffer__" = pure (some (.builtin "bytearray.__release_buffer__")) := by rw [typeLookup_type, builtinLookup_eq_fast]; kernel_rfl
theorem look_buffer : typeLookup (.type "bytearray") "__buffer__" = pure (some (.builtin "bytearray.__buffer__")) := by rw [typeLookup_type, builtinLookup_eq_fast]; kernel_rfl
theorem look_init : typeLookup (.type "bytearray") "__init__" = pure (some (.builtin "bytearray.__init__")) := by rw [typeLookup_type, builtinLookup_eq_fast]; kernel_rfl
theorem slot_init : Slot "bytearray" "__init__" "bytearray.__init__" :=
  .of (owner := "bytearray") (n := "__init__") (by rw [typeLookup_type, builtinLookup_eq_fast]; kernel_rfl) (by decide +kernel) (by decide +kernel) (by decide +kernel)
    (by first | exact .inl (by decide +kernel) | exact .inr (by decide +kernel)) (by rw [isSubtype_type]; kernel_rfl)
theorem ba_no_bytes : typeLookup (.type "bytearray") "__bytes__" = pure none := by rw [typeLookup_type, builtinLookup_eq_fast]; kernel_rfl
theorem ba_no_index : typeLookup (.type "bytearray") "__index__" = pure none := by rw [typeLookup_type, builtinLookup_eq_fast]; kernel_rfl
theorem int_index : typeLookup (.type "int") "__index__" = pure (some (.builtin "int.__index__")) := by rw [typeLookup_type, builtinLookup_eq_fast]; kernel_rfl
theorem bind_init (v : Value) : Builtin.Bytes.bindOptional "bytearray.__init__" "bytearray" ["source", "encoding", "errors"] [v] [] = pure [some v, none, none] := by kernel_rfl
theorem ends_release : ("bytearray.__release_buffer__" : String).endsWith ("." ++ "__release_buffer__") = true := by decide +kernel
theorem drop_release : ("bytearray.__release_buffer__" : String).dropRight ("__release_buffer__".length + 1) = "bytearray" := by decide +kernel
theorem ends_buffer : ("bytearray.__buffer__" : String).endsWith ("." ++ "__buffer__") = true := by decide +kernel
theorem drop_buffer : ("bytearray.__buffer__" : String).dropRight ("__buffer__".length + 1) = "bytearray" := by decide +kernel
section
variable {M : Model} {A : Around} {E : Value → Shared → Prop} {s : Shared}
theorem ownRelease_ba {B : Addr} {Q : Bool → Shared → Prop} (hT : s.TypeIs (.ref B) "bytearray") (h : Q false s) : wpAny M A (Builtin.Bytes.ownRelease (.ref B)) Q E s := by
  unfold Builtin.Bytes.ownRelease Builtin.Bytes.slotIsOwn
  refine wpAny_bind (wpAny_bind (wpAny_specialOf hT look_release ?_))
  dsimp only
  rw [ends_release, drop_release]
  exact wpAny_isInstance hT sub_self (wpAny_pure h)
end
section
variable {prog : Program} {w : World} {A : Around} {E : Value → Shared → Prop} {s : Shared}
theorem write_ba {B : Addr} {b : Array UInt8} {f : Array UInt8 → Array UInt8} {Q : Unit → Shared → Prop} (hB : s.heap.get? B = some (baO b)) (hz : (f b).size ≤ sizeLine) (h : Q () { s with heap := s.heap.update B (Obj.mapBytearray f) }) :
    wpAny (model prog w) A (Builtin.Bytes.write (.ref B) f) Q E s := by
  show wpAny _ _ (updateBytearray B f) _ _ _
  unfold updateBytearray
  refine wpAny_bind (wpAny_load hB ?_)
  show wpAny _ _ (update B (Obj.mapBytearray f) >>= fun _ => lookBehind B) _ _ _
  refine wpAny_bind (wpAny_update hB ?_)
  refine wpAny_lookBehind (Heap.get?_update_self (Obj.mapBytearray f) hB rfl) ?_ h
  show (if (f b).size > sizeLine then some "bytearray:memory" else none) = none
  rw [if_neg (by omega)]
theorem wpC_ifN {α : Type} {M : Model} {c : Prop} [Decidable c] {a b : Sem α} {Q : α → Shared → Prop} (hc : ¬ c) (h : wpC M A b Q E s) : wpC M A (if c then a else b) Q E s := by rw [if_neg hc]; exact h
theorem wpAny_ifN {α : Type} {M : Model} {c : Prop} [Decidable c] {a b : Sem α} {Q : α → Shared → Prop} (hc : ¬ c) (h : wpAny M A b Q E s) : wpAny M A (if c then a else b) Q E s := by rw [if_neg hc]; exact h
theorem wpAny_ifP {α : Type} {M : Model} {c : Prop} [Decidable c] {a b : Sem α} {Q : α → Shared → Prop} (hc : c) (h : wpAny M A a Q E s) : wpAny M A (if c then a else b) Q E s := by rw [if_pos hc]; exact h
theorem exportsOf_ba {M : Model} {B : Addr} {b : Array UInt8} {Q : Nat → Shared → Prop} (hB : s.heap.get? B = some (baO b)) (h : Q 0 s) : wpAny M A (Builtin.Bytes.exportsOf (.ref B)) Q E s := by
  unfold Builtin.Bytes.exportsOf
  exact wpAny_bind (wpAny_load hB (wpAny_pure h))
theorem init_tree {n : Int} {u : Tok} {B : Addr} {Q : Fin → Shared → Prop} (hB : s.heap.get? B = some (baO #[])) (hn : 0 ≤ n) (hz : n ≤ 1000)
    (h : ∀ h', h'.get? B = some (baO (Array.replicate n.toNat 0)) → h'.objs.size = s.heap.objs.size → (∀ b o, b ≠ B → s.heap.get? b = some o → h'.get? b = some o) → Q (.done (.ret .none)) { s with heap := h' }) :
    wpC (model prog w) A (Builtin.«bytearray.__init__» ⟨[.ref B, .int n u], []⟩) Q E s := by
  have hT : s.TypeIs (.ref B) "bytearray" := ⟨_, hB, rfl⟩
  have hf : Builtin.Bytes.fitsIndex n = true := by unfold Builtin.Bytes.fitsIndex; simp only [Bool.and_eq_true, decide_eq_true_eq]; omega
  have hp : (n == 2 ^ 63 - 1) = false := beq_eq_false_iff_ne.mpr (by omega)
  have hl : Builtin.Bytes.tooLong n.toNat = false := by unfold Builtin.Bytes.tooLong; simp only [decide_eq_false_iff_not]; unfold sizeLine; omega
  have hB1 : (s.heap.update B (Obj.mapBytearray fun _ => #[])).get? B = some (baO #[]) := Heap.get?_update_self (Obj.mapBytearray fun _ => #[]) hB rfl
  unfold Builtin.«bytearray.__init__»
  dsimp only
  refine wpC_part (ownRelease_ba hT ?_)
  refine wpC_ifN Bool.false_ne_true ?_
  refine wpC_part (wpAny_of_eq (bind_init _) ?_)
  dsimp only
  refine wpC_part (wpAny_of_eq (a := ()) rfl ?_)
  refine wpC_part (wpAny_of_eq (a := ()) rfl ?_)
  refine wpC_bind (wpC_bind (m := Builtin.Bytes.exported (.ref B)) (wpC_exported (wpC_any ?_)))
  show wpAny _ _ (Builtin.Bytes.exportsOf (.ref B) >>= fun x => pure (decide (x > 0))) _ _ s
  refine wpAny_bind (m := Builtin.Bytes.exportsOf (.ref B)) (exportsOf_ba hB (wpAny_pure ?_))
  refine wpC_any (wpAny_ifN (by decide) ?_)
  refine wpAny_bind (write_ba hB (by decide) ?_)
  refine wpAny_bind (wpAny_of_eq (a := none) rfl ?_)
  refine wpAny_ifN Bool.false_ne_true ?_
  refine wpAny_bind (wpAny_ifN Bool.false_ne_true (wpAny_ifN Bool.false_ne_true (wpAny_pure ?_)))
  refine wpAny_bind (wpAny_specialOf (typeIs_int _ _ _) int_index ?_)
  refine wpAny_ifP rfl ?_
  refine wpAny_bind (wpAny_attempt (wpAny_of_eq (rfl : asIndex (.int n u) = pure n) ?_))
  dsimp only
  refine wpAny_ifN (by rw [hf]; exact Bool.false_ne_true) (wpAny_ifN (Int.not_lt.mpr hn) (wpAny_ifN (by rw [hp]; exact Bool.false_ne_true) (wpAny_ifN (by rw [hl]; exact Bool.false_ne_true) ?_)))
  refine wpAny_bind (wpAny_rule ?_)
  by_cases h0 : n > 0
  · rw [if_pos h0]
    refine wpAny_bind (write_ba hB1 (by rw [Array.size_replicate]; unfold sizeLine; omega) ?_)
    refine wpAny_pure (h _ (Heap.get?_update_self (Obj.mapBytearray fun _ => Array.replicate n.toNat 0) hB1 rfl) ?_ fun b o hb e => ?_)
    · rw [Heap.size_update, Heap.size_update]
    · rw [Heap.get?_update_other _ _ (Ne.symm hb), Heap.get?_update_other _ _ (Ne.symm hb)]; exact e
  · rw [if_neg h0]
    have : n = 0 := by omega
    subst this
    refine wpAny_pure (h _ hB1 ?_ fun b o hb e => ?_)
    · rw [Heap.size_update]
    · rw [Heap.get?_update_other _ _ (Ne.symm hb)]; exact e
end
end BA
end Mine

end
section
open PySem PySem.W PyProof.Rows PySem.Calls PySem.Spec
set_option maxRecDepth 100000
namespace Mine
namespace BA
theorem args_init (a b : Value) : argsOk "bytearray.__init__" ⟨[a, b], []⟩ := by
  unfold argsOk; kernel_rfl
theorem clean_init (args : Args) : cleanCode (.builtin "bytearray.__init__" args) = true := by
  show (["claim.caller", "type.__call__", "bytearray.__init__"].contains "bytearray.__init__") = true
  decide
theorem clean_typeCall (args : Args) : cleanCode (.builtin "type.__call__" args) = true := by
  show (["claim.caller", "type.__call__", "bytearray.__init__"].contains "type.__call__") = true
  decide
section
variable {prog : Program} {w : World} {A : Around} {E : Value → Shared → Prop} {s : Shared}
theorem codeC_builtin {R : Result → Shared → Prop} {id : String} {args : Args} {b : Builtin} (hb : entryFor table id = some b) (hcl : cleanCode (.builtin id args) = true)
    (h : wpC (model prog w) (A.under (.builtin id args)) (b args)
      (fun fin s' => match fin with | .done f => R (.ok f) s' | .again c' => c'.quiet = true ∧ codeC (model prog w) A c' R s') (fun e s' => R (.error e) s') s) :
    codeC (model prog w) A (.builtin id args) R s := by
  refine codeC_of_tree hcl ?_
  show wpC _ _ (match entryFor table id with | some b => b args | none => unsupported ((withoutEnding? id "#data").getD id)) _ _ s
  rw [hb]; exact h
theorem code_init {n : Int} {u : Tok} {B : Addr} {R : Result → Shared → Prop} (hB : s.heap.get? B = some (baO #[])) (hn : 0 ≤ n) (hz : n ≤ 1000)
    (h : ∀ h', h'.get? B = some (baO (Array.replicate n.toNat 0)) → h'.objs.size = s.heap.objs.size → (∀ b o, b ≠ B → s.heap.get? b = some o → h'.get? b = some o) → R (.ok (.ret .none)) { s with heap := h' }) :
    codeC (model prog w) A (.call (.builtin "bytearray.__init__") ⟨[.ref B, .int n u], []⟩) R s := by
  refine codeC_of_tree rfl ?_
  show wpC _ A.in1 (do checkBuiltinCall "bytearray.__init__" ⟨[.ref B, .int n u], []⟩; again (.builtin "bytearray.__init__" ⟨[.ref B, .int n u], []⟩)) _ _ s
  refine wpC_part (slot_init.check _ _ _ _ _ _ _ _ ⟨_, hB, rfl⟩ (args_init _ _) (wpC_pure ⟨plainId_quiet plain_init _, codeC_builtin entry_init (clean_init _) ?_⟩))
  exact init_tree hB hn hz fun h' h1 h2 h3 => h h' h1 h2 h3
theorem call_bytearray {n : Int} {u : Tok} {Q : Value → Shared → Prop} (hn : 0 ≤ n) (hz : n ≤ 1000)
    (h : ∀ h', h'.get? s.heap.objs.size = some (baO (Array.replicate n.toNat 0)) → h'.objs.size = s.heap.objs.size + 1 → (∀ b o, s.heap.get? b = some o → h'.get? b = some o) → Q (.ref s.heap.objs.size) { s with heap := h' }) :
    wpC (model prog w) A (call (.type "bytearray") [.int n u]) Q E s := by
  refine wpC_call (codeC_of_tree rfl ?_)
  show wpC _ A.in1 (callAny (.type "bytearray") ⟨[.int n u], []⟩) _ _ s
  refine wpC_pure ⟨Code.quiet_builtin _ (by decide +kernel), codeC_builtin F.entry_type_call (clean_typeCall _) ?_⟩
  show wpC _ _ (Builtin.«type.__call__» ⟨[.type "bytearray", .int n u], []⟩) _ _ s
  rw [type_call]
  refine wpC_bind (wpC_holding (wpC_call (codeC_any (codeAny_mono (code_new (Q₁ := fun v s' => v = .ref s.heap.objs.size ∧ s' = { s with heap := s.heap.push (baO #[]) }) (E := fun _ _ => False) n u ⟨rfl, rfl⟩) fun r s' hr => ?_))))
  cases r with
  | error e => exact hr.elim
  | ok fl =>
    cases fl with
    | next => exact hr.elim
    | brk => exact hr.elim
    | cont => exact hr.elim
    | ret v =>
      obtain ⟨rfl, rfl⟩ := hr
      have hB : (s.heap.push (baO #[])).get? s.heap.objs.size = some (baO #[]) := Heap.get?_push_size _ rfl
      have hT : ({ s with heap := s.heap.push (baO #[]) } : Shared).TypeIs (.ref s.heap.objs.size) "bytearray" := ⟨_, hB, rfl⟩
      show wpC _ _ (behind _ _) _ _ _
      unfold behind
      refine wpC_part (wpAny_isInstance hT sub_self ?_)
      simp only [Bool.not_true, Bool.false_eq_true, if_false]
      refine wpC_bind (wpC_holding ?_)
      unfold callSpecial?
      refine wpC_part (wpAny_specialOf hT look_init ?_)
      refine wpC_holding (wpC_part (wpAny_of_eq (slot_init.bind _) ?_))
      refine wpC_bind (wpC_call (code_init hB hn hz fun h' h1 h2 h3 => ?_))
      refine wpC_pure (wpC_pure ?_)
      refine h h' h1 (h2.trans (Heap.size_push ..)) fun b o e => h3 b o ?_ (Heap.get?_push_of_some _ e)
      exact Nat.ne_of_lt (Heap.lt_size e)
end
end BA
end Mine

end
section
open PySem PySem.W PyProof.Rows PySem.Calls PySem.Spec
set_option maxRecDepth 100000
namespace Mine
namespace BA
theorem slot_set : Slot "bytearray" "__setitem__" "bytearray.__setitem__" :=
  .of (owner := "bytearray") (n := "__setitem__") (by rw [typeLookup_type, builtinLookup_eq_fast]; kernel_rfl) (by decide +kernel) (by decide +kernel) (by decide +kernel)
    (by first | exact .inl (by decide +kernel) | exact .inr (by decide +kernel)) (by rw [isSubtype_type]; kernel_rfl)
theorem entry_set : entryFor table "bytearray.__setitem__" = some Builtin.«bytearray.__setitem__» := entryFor_of_tree (by kernel_rfl)
theorem args_set (a b c : Value) : argsOk "bytearray.__setitem__" ⟨[a, b, c], []⟩ := by unfold argsOk; kernel_rfl
section
variable {prog : Program} {w : World} {A : Around} {E : Value → Shared → Prop} {s : Shared}
theorem setItem_ba {B : Addr} {b : Array UInt8} {k x : Int} {t t' : Tok} {Q : Unit → Shared → Prop} (hB : s.heap.get? B = some (baO b)) (h0 : 0 ≤ k) (hn : k < b.size) (hz : b.size ≤ 1000) (hx : 0 ≤ x) (hx' : x < 256)
    (hQ : ∀ h', h'.get? B = some (baO (b.setIfInBounds k.toNat x.toNat.toUInt8)) → h'.objs.size = s.heap.objs.size → (∀ c o, c ≠ B → s.heap.get? c = some o → h'.get? c = some o) → Q () { s with heap := h' }) :
    wpAny (model prog w) A (setItem (.ref B) (.int k t) (.int x t')) Q E s := by
  have hT : s.TypeIs (.ref B) "bytearray" := ⟨_, hB, rfl⟩
  unfold setItem
  try with_reducible refine wpAny_holding ?_
  first | refine wpAny_bind (wpAny_pure ?_) | skip
  refine wpAny_bind (wpAny_sequenceKey hT (by decide) ?_)
  refine wpAny_bind (wpAny_callSpecial?_slot (name := Str.ofString "__setitem__") hT slot_set
    (wpAny_call_entry slot_set hT entry_set ?_ (args_set _ _ _)))
  unfold Builtin.«bytearray.__setitem__»
  dsimp only
  refine bm_if_false rfl ?_
  have hf : Builtin.Bytes.fitsIndex k = true := by unfold Builtin.Bytes.fitsIndex; simp only [Bool.and_eq_true, decide_eq_true_eq]; omega
  refine wpAny_bind (m := Builtin.Bytes.subscript? (.int k t)) ?_
  unfold Builtin.Bytes.subscript?
  refine wpAny_bind (wpAny_specialOf (typeIs_int _ _ _) int_index ?_)
  refine bm_if_false rfl ?_
  refine wpAny_bind (wpAny_of_eq (rfl : asIndex (.int k t) = pure k) ?_)
  simp only [hf, Bool.not_true, Bool.false_eq_true, if_false]
  refine wpAny_pure ?_
  dsimp only
  refine wpAny_bind (m := Builtin.Bytes.byteValue (.int x t')) ?_
  unfold Builtin.Bytes.byteValue
  refine wpAny_bind (wpAny_of_eq (rfl : asIndex (.int x t') = pure x) ?_)
  refine bm_if_false (by simp only [Bool.or_eq_false_iff, decide_eq_false_iff_not]; omega) ?_
  refine wpAny_pure ?_
  refine wpAny_bind (m := Builtin.Bytes.payload (.ref B)) ?_
  unfold Builtin.Bytes.payload Builtin.Bytes.payload?
  refine wpAny_bind (wpAny_bind (wpAny_load hB (wpAny_pure (wpAny_pure ?_))))
  have hs : seqIndex? k b.size = some k.toNat := by
    unfold seqIndex?
    simp only [if_neg (Int.not_lt.mpr h0)]
    rw [if_pos (by simp only [Bool.and_eq_true, decide_eq_true_eq]; omega)]
  rw [hs]
  dsimp only
  refine wpAny_bind (write_ba hB (by rw [Array.size_setIfInBounds]; unfold sizeLine; omega) ?_)
  have g : (s.heap.update B (Obj.mapBytearray (·.setIfInBounds k.toNat x.toNat.toUInt8))).get? B = some (baO (b.setIfInBounds k.toNat x.toNat.toUInt8)) := Heap.get?_update_self (Obj.mapBytearray (·.setIfInBounds k.toNat x.toNat.toUInt8)) hB rfl
  have q := hQ _ g (by rw [Heap.size_update]) fun c o hc e => by rw [Heap.get?_update_other _ _ (Ne.symm hc)]; exact e
  first
    | exact wpAny_bind (wpAny_pure (wpAny_pure ⟨.none, rfl, wpAny_pure q⟩))
    | exact wpAny_pure ⟨.none, rfl, wpAny_pure q⟩
theorem bytes_new {B : Addr} {b : Array UInt8} {Q : Value → Shared → Prop} (hB : s.heap.get? B = some (baO b)) (hz : b.size ≤ 1000)
    (hQ : ∀ t k, Q (.bytes b t) { s with toks := k }) :
    codeAny (model prog w) A (.call (.builtin "bytes.__new__") ⟨[.type "bytes", .ref B], []⟩) (wants Q E) s := by
  refine codeAny_of_tree ?_
  show wpAny _ A.in1 (do checkBuiltinCall "bytes.__new__" ⟨[.type "bytes", .ref B], []⟩; again (.builtin "bytes.__new__" ⟨[.type "bytes", .ref B], []⟩)) _ _ s
  refine wpAny_bind (wpAny_of_eq (F.bm_newCall _) (wpAny_pure ⟨plainId_quiet F.bm_plain _, codeAny_builtin F.bm_entry ?_⟩))
  rw [Around.under_plainId F.bm_plain _]
  have hT : s.TypeIs (.ref B) "bytearray" := ⟨_, hB, rfl⟩
  unfold Builtin.«bytes.__new__»
  refine wpAny_bind (wpAny_of_eq (a := true) rfl ?_)
  refine bm_if_false rfl ?_
  refine wpAny_bind (wpAny_of_eq F.bm_sub ?_)
  refine bm_if_false rfl ?_
  refine wpAny_bind (wpAny_of_eq (F.bm_bind _) ?_)
  refine wpAny_bind (wpAny_of_eq (a := ()) rfl ?_)
  refine wpAny_bind (wpAny_of_eq (a := ()) rfl ?_)
  refine bm_if_false rfl ?_
  refine wpAny_bind (wpAny_specialOf hT ba_no_bytes ?_)
  refine wpAny_bind (wpAny_bind ?_)
  show wpAny _ _ (load B >>= _) _ _ _
  refine wpAny_bind (wpAny_load hB ?_)
  refine wpAny_pure (wpAny_pure ?_)
  refine bm_if_false rfl ?_
  refine wpAny_bind (wpAny_specialOf hT ba_no_index ?_)
  refine bm_if_true rfl ?_
  first
    | show wpAny _ _ (Builtin.Bytes.buffer? "bytes.__new__" (.ref B) true >>= _) _ _ _
    | (refine wpAny_bind ?_; show wpAny _ _ (Builtin.Bytes.buffer? "bytes.__new__" (.ref B) true >>= _) _ _ _)
  refine wpAny_bind ?_
  unfold Builtin.Bytes.buffer?
  refine wpAny_bind (wpAny_specialOf hT look_buffer ?_)
  dsimp only
  refine wpAny_bind (m := Builtin.Bytes.slotIsOwn (.ref B) "__buffer__") ?_
  unfold Builtin.Bytes.slotIsOwn
  refine wpAny_bind (wpAny_specialOf hT look_buffer ?_)
  dsimp only
  rw [ends_buffer, drop_buffer]
  refine wpAny_isInstance hT sub_self ?_
  refine bm_if_false rfl ?_
  refine wpAny_bind (wpAny_specialOf hT look_buffer ?_)
  refine wpAny_bind (ownRelease_ba hT ?_)
  refine bm_if_false rfl ?_
  refine wpAny_bind (m := Builtin.Bytes.payload (.ref B)) ?_
  unfold Builtin.Bytes.payload Builtin.Bytes.payload?
  refine wpAny_bind (wpAny_bind (wpAny_load hB (wpAny_pure (wpAny_pure (wpAny_pure ?_)))))
  refine wpAny_bind (wpAny_rule ?_)
  refine wpAny_bind (wpAny_mkBytes ?_ (by unfold sizeLine; omega))
  show wpAny _ _ (if (Value.type "bytes" == Value.type "bytes") = true then _ else _) _ _ _
  refine bm_if_true (by decide) ?_
  first
    | exact wpAny_pure (hQ _ _)
    | exact wpAny_bind (wpAny_pure (wpAny_pure (hQ _ _)))
theorem call_bytes_ba {B : Addr} {b : Array UInt8} {Q : Value → Shared → Prop} (hB : s.heap.get? B = some (baO b)) (hz : b.size ≤ 1000) (hQ : ∀ t k, Q (.bytes b t) { s with toks := k }) :
    wpAny (model prog w) A (call (.type "bytes") [.ref B]) Q E s := by
  refine callType_codes (Q₁ := fun obj s₁ => s₁.TypeIs obj "bytes" ∧ Q obj s₁) F.bm_called (F.bm_typeCall _) F.entry_object_init
    (bytes_new hB hz fun t k => ⟨PySem.W.typeIs_bytes _ _ _, hQ t k⟩) fun obj s₁ h₁ => ?_
  exact ⟨h₁.1, F.args_object_init_2 obj _, object_init_meets F.bm_called.init.lookup F.bm_called.made (by decide) prog w A.in1 _ s₁ ⟨h₁.1, rfl, h₁.2⟩⟩
end
end BA
end Mine

end
local macro_rules | `(tactic| walk_at "none here") => `(tactic| skip)
theorem Join.rstbr : True := by
  w_top off
  trivial
section
open PySem PySem.W PyProof.Rows PySem.Calls PySem.Spec
set_option maxRecDepth 100000
set_option maxHeartbeats 8000000
namespace Mine
local macro_rules | `(tactic| k_all) => `(tactic| exact ne_of_all_lt (by assumption))
noncomputable def CtrC (w : World) (f : Addr) (vs : List Value) (news : List (Addr × Obj)) (P : Value → List (Addr × Obj) → Prop) : Prop :=
  ∀ (p : Program) (loose : List Str) (mean : ExcName → Option Value) (mg mb : Str → Option Value)
    (dp un : Nat) (gd : Option (List Code)) (cn : Str) (cs : Scope) (a : Addr) (ccd : Value) (cl : List (Str × Addr)) (outer : List Env) (A₀ : Around) (base h₀ : Heap) (L : Addr) (m : Str → Option Value) (s : Shared) (Q E : Value → Shared → Prop),
    Below A₀ base outer h₀ → Fr h₀ L s.heap m → (hd.heap_39 w.params).In h₀ → News h₀ L s.heap news → Top p loose mean mg mb h₀ → cs.kind = .function →
    dp + 3 < recursionLimit → un + 20 < cLine →
    (∀ (v : Value) (h' : Heap) (tk' : Nat) (own : List (Addr × Obj)), P v own → Fr h₀ L h' m → News h₀ L h' (own ++ news) → Q v { s with heap := h', toks := tk' }) →
      wpC (model PySem.Challenge.rw_pk0009_01.row.prog w) (ktrTop dp un gd cn cs L a ccd cl outer) (call (.ref f) vs) Q E s
noncomputable abbrev kvs (b : Array UInt8) (t : Tok) (wd : Nat) (t' : Tok) (B : Addr) : Str → Option Value :=
  fun y => if y = Str.ofString "swapped_data" then some (.ref B) else List.lookup y [(Str.ofString "data", Value.bytes b t), (Str.ofString "width", Value.int wd t')].reverse
theorem range_blocks (n wd : Nat) (hw : 0 < wd) : Builtin.Range.rangeSize 0 ((n * wd : Nat) : Int) (wd : Int) = (n : Int) := by
  rw [rangeSize_pos (by omega) (by omega)]
  push_cast
  rw [show (n : Int) * wd + wd - 1 = (wd - 1) + n * wd from by omega, Int.add_mul_ediv_right _ _ (by omega), Int.ediv_eq_zero_of_lt (by omega) (by omega), Int.zero_add]
theorem range_one (wd : Nat) : Builtin.Range.rangeSize 0 (wd : Int) 1 = (wd : Int) := by
  rw [rangeSize_nat]; simp
theorem small_of {a b c : Int} (ha : 0 ≤ a ∧ a ≤ 1000) (hb : 0 ≤ b ∧ b ≤ 1000) (hc : 0 < c ∧ c ≤ 1000) : Builtin.Range.small a b c = true := by
  have hz : 0 ≤ Builtin.Range.rangeSize a b c ∧ Builtin.Range.rangeSize a b c ≤ 1001 := by
    unfold Builtin.Range.rangeSize
    rw [if_pos hc.1]
    split
    · have h1 := Int.ediv_nonneg (a := b - a - 1) (b := c) (by omega) (by omega)
      have h2 := Int.ediv_le_self (a := b - a - 1) c (by omega)
      omega
    · omega
  generalize hg : Builtin.Range.rangeSize a b c = z at hz
  have hm : z * c ≤ 1001 * 1000 := Int.mul_le_mul hz.2 hc.2 (by omega) (by omega)
  have hm0 : 0 ≤ z * c := Int.mul_nonneg hz.1 (by omega)
  unfold Builtin.Range.small
  rw [hg]
  simp only [Builtin.Range.rangeFitsLong, Bool.and_eq_true, Bool.or_eq_true, decide_eq_true_eq, beq_iff_eq, if_pos hc.1]
  omega
noncomputable abbrev kij (b : Array UInt8) (t : Tok) (wd : Nat) (t' : Tok) (B : Addr) (oi oj : Option Value) : Str → Option Value :=
  fun y => if y = Str.ofString "j" then oj else if y = Str.ofString "i" then oi else kvs b t wd t' B y
theorem kij_none (b : Array UInt8) (t : Tok) (wd : Nat) (t' : Tok) (B : Addr) : kvs b t wd t' B = kij b t wd t' B none none := by
  funext y
  show _ = if y = Str.ofString "j" then none else if y = Str.ofString "i" then none else kvs b t wd t' B y
  by_cases h1 : y = Str.ofString "j"
  · rw [if_pos h1, h1]; rfl
  · by_cases h2 : y = Str.ofString "i"
    · rw [if_neg h1, if_pos h2, h2]; rfl
    · rw [if_neg h1, if_neg h2]
theorem kij_i (b : Array UInt8) (t : Tok) (wd : Nat) (t' : Tok) (B : Addr) (oi oj v : Option Value) (y : Str) : (if y = Str.ofString "i" then v else kij b t wd t' B oi oj y) = kij b t wd t' B v oj y := by
  show _ = if y = Str.ofString "j" then oj else if y = Str.ofString "i" then v else kvs b t wd t' B y
  by_cases h1 : y = Str.ofString "i"
  · rw [if_pos h1, if_neg (by rw [h1]; decide), if_pos h1]
  · rw [if_neg h1]
    show (if y = Str.ofString "j" then oj else if y = Str.ofString "i" then oi else kvs b t wd t' B y) = _
    rw [if_neg h1, if_neg h1]
theorem kij_j (b : Array UInt8) (t : Tok) (wd : Nat) (t' : Tok) (B : Addr) (oi oj v : Option Value) (y : Str) : (if y = Str.ofString "j" then v else kij b t wd t' B oi oj y) = kij b t wd t' B oi v y := by
  show _ = if y = Str.ofString "j" then v else if y = Str.ofString "i" then oi else kvs b t wd t' B y
  by_cases h1 : y = Str.ofString "j"
  · rw [if_pos h1, if_pos h1]
  · rw [if_neg h1, if_neg h1]
    show (if y = Str.ofString "j" then oj else if y = Str.ofString "i" then oi else kvs b t wd t' B y) = _
    rw [if_neg h1]
noncomputable def swapRow (b : Array UInt8) (i w : Nat) : Nat → Array UInt8 → Array UInt8
  | 0, acc => acc
  | j + 1, acc => (swapRow b i w j acc).setIfInBounds (i + w - 1 - j) (b.getD (i + j) 0)
noncomputable def swapAll (b : Array UInt8) (w : Nat) : Nat → Array UInt8
  | 0 => Array.replicate b.size 0
  | r + 1 => swapRow b (r * w) w w (swapAll b w r)
theorem swapRow_size (b : Array UInt8) (i w : Nat) : ∀ (j : Nat) (acc : Array UInt8), (swapRow b i w j acc).size = acc.size
  | 0, _ => rfl
  | j + 1, acc => by show ((swapRow b i w j acc).setIfInBounds _ _).size = _; rw [Array.size_setIfInBounds, swapRow_size b i w j acc]
theorem swapAll_size (b : Array UInt8) (w : Nat) : ∀ (r : Nat), (swapAll b w r).size = b.size
  | 0 => Array.size_replicate
  | r + 1 => by show (swapRow b (r * w) w w (swapAll b w r)).size = _; rw [swapRow_size, swapAll_size b w r]
theorem getD_byte (b : Array UInt8) (k : Nat) : ((KBw.bInts b).getD k 0).toNat.toUInt8 = b.getD k 0 := by
  show ((b.toList.map fun c => (c.toNat : Int)).getD k 0).toNat.toUInt8 = b.getD k 0
  rw [← KBw.getD_ints, Int.toNat_natCast]
  show UInt8.ofNat (b.toList.getD k 0).toNat = _
  rw [UInt8.ofNat_toNat, List.getD_eq_getElem?_getD, Array.getD_eq_getD_getElem?, Array.getElem?_toList]
theorem news_put {h₀ h h' : Heap} {L B : Addr} {o o' : Obj} {pre post : List (Addr × Obj)} (N : News h₀ L h (pre ++ (B, o) :: post)) (g : h'.get? B = some o') (up : ∀ c x, c ≠ B → h.get? c = some x → h'.get? c = some x)
    (hpre : ∀ p ∈ pre, p.1 ≠ B) (hpost : ∀ p ∈ post, p.1 ≠ B) : News h₀ L h' (pre ++ (B, o') :: post) := fun p hp => by
  rcases List.mem_append.mp hp with hp | hp
  · have z := N p (List.mem_append_left _ hp)
    exact ⟨up _ _ (hpre p hp) z.1, z.2⟩
  · rcases List.mem_cons.mp hp with rfl | hp
    · exact ⟨g, (N (B, o) (List.mem_append_right _ (.head _))).2⟩
    · have z := N p (List.mem_append_right _ (.tail _ hp))
      exact ⟨up _ _ (hpost p hp) z.1, z.2⟩
theorem fr_put {h₀ h h' : Heap} {L B : Addr} {m : Str → Option Value} (F : Fr h₀ L h m) (hL : B ≠ L) (hB : h₀.get? B = none) (up : ∀ c x, c ≠ B → h.get? c = some x → h'.get? c = some x) : Fr h₀ L h' m :=
  ⟨F.ns.at' fun o e => up L o (Ne.symm hL) e, fun c o e => up c o (fun q => by rw [q, hB] at e; cases e) (F.keep c o e), F.above⟩
theorem swap_ctr (w : World) (b : Array UInt8) (t t' : Tok) (wd : Nat) (news : List (Addr × Obj)) (hb : b.size ≤ 100) (hw : 0 < wd) (hw' : wd ≤ 100) (n : Nat) (hn : b.size = n * wd) :
    CtrC w 29 [.bytes b t, .int wd t'] news (fun r own => ∃ t2, r = .bytes (swapAll b wd n) t2 ∧ own = []) := by
  unfold CtrC
  k_fill
  intro p loose mean mg mb dp un gd cn cs a ccd cl outer A₀ base h₀ L m s Q E B F X N T hk hdp hun hret
  refine wpC_call ?_
  k_dflt (refine' codeC_def (binds := [(Str.ofString "data", .bytes b t), (Str.ofString "width", .int wd t')]) ?k1 ?k2 ?k3 ?k4 ?k5 ?kA ?kF ?kK ?k6 ?k7 ?k8 ?k9 ?kB ?_ ?c2 ?c3 ?c4 ?c5; (case kA => exact rfl); (case kF => exact rfl); (case kK => assumption); (case k1 => k_asm); (case k2 => k_asm); (case k3 => k_asm); (case k4 => k_asm); (case k5 => k_asm); (case k6 => k_is); (case k7 => k_is); (case k8 => ktr_room); (case k9 => exact BindsTo.of_eq rfl); (case c5 => decide); (case kB => exact locs rfl); (case c2 => exact rfl); (case c3 => exact rfl); (case c4 => exact rfl); k_whole; intro g' L' h' FG' F' N' B' X' T'; (try dsimp only); (try k_lift B'); (try k_fold))
  have hnw : ∀ p ∈ news, p.1 < h'.objs.size := fun p hp => Heap.lt_size (N' p hp).1
  refine wpC_execs_cons (wpC_Assign_Name (wpC_Call_Name ?_))
  k_fold
  k_steps
  refine wpC_callWith_type1 (wpC_any ?_)
  k_steps
  refine BA.call_bytearray (by omega) (by omega) fun h1 g1 z1 up1 => ?_
  rename (Fr g' L' h' _) => F1
  have F2 := F1.keeps up1
  have N2 : News g' L' h1 ((h'.objs.size, BA.baO (Array.replicate b.size 0)) :: news) := MapIt.news_new F1 (N'.grown up1) (Nat.le_refl _) (by simpa using g1)
  clear N' F1 g1
  k_steps
  dsimp only at *
  clear_value qk ek
  clear qk ek
  rename (Fr g' L' _ _) => F1
  rename (News g' L' _ ((h'.objs.size, _) :: _)) => N1
  refine wpC_execs_cons (hideC fun Qf hQf => wpC_For ?_)
  k_steps
  dsimp only at *
  rename (Fr g' L' _ _) => F1
  rename (News g' L' _ ((h'.objs.size, _) :: _)) => N1
  rename (IsRange _ _ _ _ _ _ _ _) => R1
  refine iterC_range (n := n) R1 (small_of (by omega) (by omega) (by omega)) (by rw [hn]; exact range_blocks n wd hw) rfl rfl rfl F1 N1
    (fun r m' nw => (∃ oi oj, m' = kij b t wd t' h'.objs.size oi oj) ∧ nw = (h'.objs.size, BA.baO (swapAll b wd r)) :: news)
    ⟨⟨none, none, kij_none b t wd t' _⟩, rfl⟩ ?_ ?_
  · rintro I i ti m₁ news₁ h2 tk2 Qb hI hi ⟨⟨oi, oj, rfl⟩, rfl⟩ hne F2' N2 hQb
    have F2 := Fr_eq (m' := kij b t wd t' h'.objs.size (some (.int (0 + i * wd) ti)) oj) F2' (fun y => kij_i ..)
    clear F2' F1 N1
    refine wpC_execs_cons (hideC fun Qg hQg => wpC_For ?_)
    k_steps
    dsimp only at *
    rename (Fr g' L' _ _) => F3
    rename (News g' L' _ ((I, _) :: _)) => N3
    rename (IsRange _ _ _ _ _ _ _ _) => R3
    refine iterC_range (n := wd) R3 (small_of (by omega) (by omega) (by omega)) (range_one wd) rfl rfl rfl F3 N3
      (fun k m' nw => (∃ oj', m' = kij b t wd t' h'.objs.size (some (.int (0 + i * wd) ti)) oj') ∧ nw = (I, rangeIt (0 + ((i + 1 : Nat) : Int) * wd) (n - ((i + 1 : Nat) : Int)) wd) :: (h'.objs.size, BA.baO (swapRow b (i * wd) wd k (swapAll b wd i))) :: news)
      ⟨⟨oj, rfl⟩, rfl⟩ ?_ ?_
    · rintro I' j tj m₁ news₁ h4 tk4 Qc hI' hj ⟨⟨oj', rfl⟩, rfl⟩ hne' F4' N4 hQc
      have F4 := Fr_eq (m' := kij b t wd t' h'.objs.size (some (.int (0 + i * wd) ti)) (some (.int (0 + j * 1) tj))) F4' (fun y => kij_j ..)
      clear F4' F3 N3
      refine wpC_any ?_
      k_steps
      have hP : i * wd + wd ≤ b.size := by
        have h9 := Nat.mul_le_mul_right wd (Nat.succ_le_of_lt hi)
        rw [hn]
        rw [Nat.succ_mul] at h9
        exact h9
      have hlen : (KBw.bInts b).length = b.size := KBw.ints_length b
      refine KBw.item_K (b := b) rfl (by omega) (by omega) (by omega) ?_
      intro t5 k5 lo5 hi5
      k_steps
      have gB := (N4 (h'.objs.size, BA.baO (swapRow b (i * wd) wd j (swapAll b wd i))) (.tail _ (.tail _ (.head _))))
      have hsz : (swapRow b (i * wd) wd j (swapAll b wd i)).size = b.size := by rw [swapRow_size, swapAll_size]
      refine BA.setItem_ba gB.1 (by omega) (by rw [hsz]; omega) (by rw [hsz]; omega) lo5 hi5 ?_
      intro h6 g6 z6 up6
      have F6 := fr_put F4 gB.2.1 gB.2.2 up6
      have N6 := news_put (pre := [_, _]) N4 g6 up6 ?_ ?_
      rotate_left
      · intro p hp
        rcases List.mem_cons.mp hp with rfl | hp
        · exact Ne.symm (hne' _ (.tail _ (.head _)))
        · rcases List.mem_cons.mp hp with rfl | hp
          · exact Ne.symm (hne _ (.head _))
          · cases hp
      · exact fun p hp => Nat.ne_of_lt (hnw p hp)
      rw [show (0 + ((i : Nat) : Int) * ((wd : Nat) : Int) + ((wd : Nat) : Int) - 1 - (0 + ((j : Nat) : Int) * 1)).toNat = i * wd + wd - 1 - j from by omega,
        show (0 + ((i : Nat) : Int) * ((wd : Nat) : Int) + (0 + ((j : Nat) : Int) * 1)).toNat = i * wd + j from by omega, getD_byte] at N6
      refine wpAny_execs_nil (hQc h6 _ _ _ F6 N6 ?_ ⟨⟨_, rfl⟩, rfl⟩)
      intro p hp
      rcases List.mem_cons.mp hp with rfl | hp
      · exact hne' _ (.head _)
      · rcases List.mem_cons.mp hp with rfl | hp
        · exact hne' (h'.objs.size, BA.baO (swapRow b (i * wd) wd j (swapAll b wd i))) (.tail _ (.head _))
        · exact hne' _ (.tail _ (.tail _ hp))
    · rintro h7 tk7 m7 news7 F7 N7 hne7 ⟨⟨oj7, rfl⟩, rfl⟩
      refine hQg _ _ ?_
      refine wpC_execs_nil (hQb h7 _ _ _ F7 N7 ?_ ⟨⟨_, _, rfl⟩, rfl⟩)
      intro p hp
      rcases List.mem_cons.mp hp with rfl | hp
      · exact hne (h'.objs.size, BA.baO (swapAll b wd i)) (.head _)
      · exact hne _ (.tail _ hp)
  · rintro h8 tk8 m8 news8 F8 N8 hne8 ⟨⟨oi8, oj8, rfl⟩, rfl⟩
    refine hQf _ _ ?_
    refine wpC_any ?_
    clear F1 N1
    k_steps
    refine BA.call_bytes_ba (N8 _ (.head _)).1 (by rw [swapAll_size]; omega) ?_
    intro t9 k9
    k_steps
    exact hret _ _ _ [] ⟨_, rfl, rfl⟩ (by assumption) (cb_drop (by assumption) (fun p hp => .tail _ hp))
end Mine

end
local macro_rules | `(tactic| walk_at "none here") => `(tactic| skip)
theorem Join.rstbs : True := by
  w_top off
  trivial
section
open PySem PySem.W PyProof.Rows PySem.Calls PySem.Spec
open PyProof.Rows.LCg
set_option maxRecDepth 100000
set_option maxHeartbeats 80000000
namespace Mine
local macro_rules | `(tactic| k_all) => `(tactic| exact ne_of_all_lt (by assumption))
local macro_rules | `(tactic| kmk_nums) => `(tactic| first | (with_reducible exact kmk_from (by assumption) (Int.natCast_nonneg _)) | (with_reducible exact kmk_upto (by assumption) (Int.natCast_nonneg _)))
noncomputable def CtrC2 (w : World) (f : Addr) (vs : List Value) (news : List (Addr × Obj)) (P : Value → List (Addr × Obj) → Prop) : Prop :=
  ∀ (p : Program) (loose : List Str) (mean : ExcName → Option Value) (mg mb : Str → Option Value)
    (dp un : Nat) (gd : Option (List Code)) (cn : Str) (cs : Scope) (a : Addr) (ccd : Value) (cl : List (Str × Addr)) (outer : List Env) (A₀ : Around) (base h₀ : Heap) (L : Addr) (m : Str → Option Value) (s : Shared) (Q E : Value → Shared → Prop),
    Below A₀ base outer h₀ → Fr h₀ L s.heap m → (hd.heap_39 w.params).In h₀ → News h₀ L s.heap news → Top p loose mean mg mb h₀ → cs.kind = .function →
    dp + 10 < recursionLimit → un + 60 < cLine →
    (∀ (v : Value) (h' : Heap) (tk' : Nat) (own : List (Addr × Obj)), P v own → Fr h₀ L h' m → News h₀ L h' (own ++ news) → Q v { s with heap := h', toks := tk' }) →
      wpC (model PySem.Challenge.rw_pk0009_01.row.prog w) (ktrTop dp un gd cn cs L a ccd cl outer) (call (.ref f) vs) Q E s
/-- what holds ahead of the turn i of the second loop -/
inductive RJ (aT : Addr) (m0 : Str → Option Value) (led : List (Addr × Obj)) (nums : List Int) (i : Nat) (m' : Str → Option Value) (nw : List (Addr × Obj)) : Prop
  | mk (o1 o2 o3 o4 o5 o6 o7 : Option Value) (tvals : List Value) (cT : Nat) (rest : List (Addr × Obj)) : m' = kR m0 o1 o2 o3 o4 o5 o6 o7 → nw = (aT, listO (List.toArray tvals) cT) :: rest → (∀ p ∈ led, p ∈ rest) → (∀ p ∈ rest, p.1 ≠ aT) →
    PairsAt rest tvals (((waysOf 4).take i).map fun ws => (aboveTo ws nums 4, belowTo ws nums 4)) → RJ aT m0 led nums i m' nw
/-- what holds ahead of the turn f of the third loop -/
inductive RK (aS aw : Addr) (m0 : Str → Option Value) (tail : List (Addr × Obj)) (nums ws : List Int) (f : Nat) (m' : Str → Option Value) (nw : List (Addr × Obj)) : Prop
  | mk (o5 o6 o7 : Option Value) (t8 t9 : Tok) (svals : List Value) (cS : Nat) : m' = kR m0 (some (Value.ref aw)) (some (Value.ref aS)) (some (Value.int (aboveTo ws nums f) t8)) (some (Value.int (belowTo ws nums f) t9)) o5 o6 o7 →
    nw = (aS, listO (List.toArray svals) cS) :: tail → IntsAre svals (seenAt ws f) → RK aS aw m0 tail nums ws f m' nw
/-- what holds ahead of a turn of the ring's walk -/
inductive RW (g' : Heap) (L' aS aw : Addr) (m0 : Str → Option Value) (nums ws : List Int) (f : Nat) (tf t8 t9 : Tok) (I12 : Addr) (oI : Obj) (tail : List (Addr × Obj)) (s : Shared) (n : Nat) (s' : Shared) : Prop
  | mk (h : Heap) (tk : Nat) (dn td : List Int) (svals' : List Value) (cS' : Nat) (tr tp : Tok) (place : Int) : n = List.length td → s' = { s with heap := h, toks := tk } → dn ++ td = ringAt ws f → chainB ws (seenAt ws f ++ dn) place td = true →
    Fr g' L' h (kR m0 (some (Value.ref aw)) (some (Value.ref aS)) (some (Value.int (aboveTo ws nums f) t8)) (some (Value.int (belowTo ws nums f) t9)) (some (.int (0 + (f : Int) * 1) tf)) (some (.int (ringSum nums dn) tr)) (some (.int place tp))) →
    News g' L' h ((I12, oI) :: (aS, listO (List.toArray svals') cS') :: tail) → IntsAre svals' (seenAt ws f ++ dn) → RW g' L' aS aw m0 nums ws f tf t8 t9 I12 oI tail s n s'
theorem rings_ctr (w : World) (l : Addr) (n0 n1 n2 n3 : Int) (t0 t1 t2 t3 : Tok) (c : Nat) (news : List (Addr × Obj))
    (c0 : -99 ≤ n0 ∧ n0 ≤ 99) (c1 : -99 ≤ n1 ∧ n1 ≤ 99) (c2 : -99 ≤ n2 ∧ n2 ≤ 99) (c3 : -99 ≤ n3 ∧ n3 ≤ 99) :
    CtrC2 w 46 [.ref l] ((l, W.listOf #[.int n0 t0, .int n1 t1, .int n2 t2, .int n3 t3] c) :: news) (fun r own => ∃ aT tvals cT rest, r = .ref aT ∧ own = (aT, listO (List.toArray tvals) cT) :: rest ∧ PairsAt rest tvals ((waysOf 4).map fun ws => (aboveTo ws [n0, n1, n2, n3] 4, belowTo ws [n0, n1, n2, n3] 4))) := by
  unfold CtrC2
  k_fill
  intro p loose mean mg mb dp un gd cn cs a ccd cl outer A₀ base h₀ L m s Q E B F X N T hk hdp hun hret
  refine wpC_call ?_
  k_dflt (refine' codeC_defC (binds := [(Str.ofString "numbers", .ref l)]) ?k1 ?k2 ?k3 ?k4 ?k5 ?kA ?kF ?kK ?k6 ?k7 ?k8 ?k9 ?kB ?kD ?_ ?c2 ?c3 ?c4; (case kA => exact rfl); (case kF => exact rfl); (case kK => assumption); (case k1 => k_asm); (case k2 => k_asm); (case k3 => k_asm); (case k4 => k_asm); (case k5 => k_asm); (case k6 => k_is); (case k7 => k_is); (case k8 => ktr_room); (case k9 => exact BindsTo.of_eq rfl); (case kB => exact rfl); (case kD => decide +kernel); (case c2 => exact rfl); (case c3 => exact rfl); (case c4 => exact rfl); k_whole; intro g' L' h' tk' cells' FG' F' N' Y' B' X' T' l1; k_cells Y'; (try simp only [List.cons_append, List.nil_append] at N'); (try dsimp only); (try k_lift B'))
  have hnw := news_lt N'
  have l1' : ∀ p ∈ (l, W.listOf #[.int n0 t0, .int n1 t1, .int n2 t2, .int n3 t3] c) :: news, p.1 < L' + 1 := fun p hp => Nat.lt_succ_of_lt (l1 p hp)
  refine wpC_execs_cons (wpC_any ?_)
  k_fold
  k_steps
  clear_value qk ek
  clear qk ek
  refine wpC_execs_cons (hideC fun Qf hQf => wpC_For ?_)
  k_steps
  dsimp only at *
  rename (Fr g' L' _ _) => F1
  rename (News g' L' _ _) => N1
  rename (IsRange _ _ _ _ _ _ _ _) => R1
  rename (Obj.data _ = Data.cell _) => dC
  refine iter_range_K F1 N1 R1 (small_of (by decide) (by decide) (by decide)) (n := 4) rfl ?_
  intro I h2 F2 N2 lt2 z2
  refine codeC_forLoop (RInv g' L' I l _ _ s news) ?_ (by intro _; rfl) 5 _ (RInv.init rfl F2 N2 dC (fun p hp => Nat.ne_of_lt (lt2 p hp)) (ne_of_all_lt l1'))
  clear F1 N1 F2 N2 dC
  rintro n s' ⟨k, h3, tk3, Wd, ys, cW, oc, x, stuff, rfl, hk4, rfl, F3, N3, dC, hst, hsub, hW, i1, i2, i3, i4, i5⟩
  have neI : ∀ p ∈ (Wd, listO ys.toArray cW) :: (L' + 1, oc) :: (l, W.listOf #[.int n0 t0, .int n1 t1, .int n2 t2, .int n3 t3] c) :: stuff, p.1 ≠ I := fun p hp => by
    rcases List.mem_cons.mp hp with rfl | hp
    · exact Ne.symm i4
    · rcases List.mem_cons.mp hp with rfl | hp
      · exact Ne.symm i1
      · rcases List.mem_cons.mp hp with rfl | hp
        · exact Ne.symm i2
        · exact (hst p hp).1
  by_cases hlt : k < 4
  · refine next_range_K F3 N3 neI (by omega) ?_
    intro h4 F4 N4
    dsimp only
    refine wpAny_assign_Name ?_
    refine' storeX_C (c := L' + 1) F4 N4 rfl (UpdF.tail ?a (UpdF.tail ?b (UpdF.head ?d))) dC ?_
    case a => exact i1
    case b => exact i5
    case d =>
      intro p hp
      rcases List.mem_cons.mp hp with rfl | hp
      · exact i3
      · exact (hst p hp).2
    intro h5 o5 F5 N5 d5
    clear F3 N3 F4 N4
    refine hideC fun Qb hQb => ?_
    refine wpC_execs_cons (wpC_any ?_)
    refine Assign_ListComp2 F5 rfl rfl (by with_unfolding_all rfl) (by with_unfolding_all rfl) (by decide) (by rfl) (by decide) (by intro _ _; rfl) (by intro _; rfl) (by rfl) (by rfl) ?_
    k_steps
    generalize hL5 : ((I, rangeIt ((k : Int) + 1) (4 - (k : Int) - 1) 1) :: (Wd, listO ys.toArray cW) :: (L' + 1, o5) :: (l, W.listOf #[.int n0 t0, .int n1 t1, .int n2 t2, .int n3 t3] c) :: stuff) = L5 at N5
    refine ⟨Wd, ys.toArray, cW, L5, rfl, F5, N5, by rw [← hL5]; exact .tail _ (.head _), ?_⟩
    rintro s₂ ⟨hh5, rfl⟩
    have hlen : ys.length = (waysOf k).length := hW.length
    refine Outer2.ind (P := fun n i zs nw m₂ => n + i = ys.length ∧ (∀ p ∈ L5, p ∈ nw) ∧ WaysAt nw zs (insAll k ((waysOf k).take i)) ∧ (∀ p ∈ nw, p.1 ≠ I ∧ p.1 ≠ L' + 1 ∨ p ∈ L5)) ?_ ?_ _ _ _ _ _ ⟨by simp, fun p hp => hp, .nil, fun p hp => .inr hp⟩
    · rintro i zs nw m₂ ⟨e1, e2, e3, e4⟩
      intro D h6 tk6 F6 N6 off6
      dsimp only
      have hi : i = (waysOf k).length := by omega
      rw [hi, List.take_length] at e3
      refine wpC_execs_nil (hQb _ _ ?_)
      exact ⟨5 - (k + 1), by omega, RInv.step hlt hL5 hst hsub d5 i1 i2 i3 e2 e3 F6 N6 off6⟩
    · rintro n i zs nw m₂ ⟨e1, e2, e3, e4⟩ v I7 oI7 C7 oC7 D7 h7 tk7 RR hv hIt hNs F7 N7 off7 ne7 hRR
      obtain ⟨aw, vals, cc, ws, rfl, ha, hints, hws⟩ := hW.get i v (by simpa using hv)
      have haL : (aw, listO vals.toArray cc) ∈ nw := e2 _ (by rw [← hL5]; exact .tail _ (.tail _ (.tail _ (.tail _ ha))))
      have hcL : (L' + 1, o5) ∈ nw := e2 _ (by rw [← hL5]; exact .tail _ (.tail _ (.head _)))
      have o3 := off7.mem
      refine wpAny_of_eq rfl ?_
      refine assign_comp (by rfl) (by rfl) hNs F7 N7 ne7.1 ?_ ?_
      · intro p hp
        rcases List.mem_cons.mp hp with rfl | hp
        · exact Ne.symm ne7.2.2
        · exact (o3 p hp).2.1
      intro h8 tk8 oC8 hNs8 F8 N8
      clear F7 N7 F5 N5
      have mW : (fun y => if y = Str.ofString "way" then some (Value.ref aw) else m₂ y) (Str.ofString "way") = some (Value.ref aw) := by rfl
      generalize hm2 : (fun y => if y = Str.ofString "way" then some (Value.ref aw) else m₂ y) = m3 at hNs8 mW
      have N9 : News g' L' h8 ((L' + 1, o5) :: (aw, listO vals.toArray cc) :: (I7, oI7) :: (C7, oC8) :: (D7, lst zs) :: nw) := fun p hp => by
        rcases List.mem_cons.mp hp with rfl | hp
        · exact N8 _ (.tail _ (.tail _ (.tail _ hcL)))
        · rcases List.mem_cons.mp hp with rfl | hp
          · exact N8 _ (.tail _ (.tail _ (.tail _ haL)))
          · exact N8 p hp
      clear N8
      have hnw9 := news_lt N9
      k_steps
      rename (Fr g' L' _ _) => F9
      rename (News g' L' _ _) => N9'
      rename (IsRange _ _ _ _ _ _ _ _) => R9
      refine iter_range_K F9 N9' R9 (small_of (by omega) (by omega) (by omega)) (n := ((k + 1 : Nat) : Int)) (range_one (k + 1)) ?_
      intro I9 h10 F10 N10 lt10 z10
      clear hnw9
      refine start_range2 (n := k + 1) (C := C7) (D := D7) (I9 := I9) (oC := oC8) (ys := zs) (news := (L' + 1, o5) :: (aw, listO vals.toArray cc) :: (I7, oI7) :: nw) rfl (by rfl) (by rfl) hNs8 F10 ?n1 ne7.2.2 ?n2 ?n3 ?n4 ?n5
        (fun j ys' news' m' => ∃ rest, news' = (L' + 1, o5) :: (aw, listO vals.toArray cc) :: (I7, oI7) :: rest ∧ Off3 I7 C7 D7 rest ∧ (∀ p ∈ nw, p ∈ rest) ∧ WaysAt rest ys' (insAll k ((waysOf k).take i) ++ (insOne k ws).take j) ∧ (∀ p ∈ rest, p.1 ≠ I ∧ p.1 ≠ L' + 1 ∨ p ∈ L5) ∧ m' (Str.ofString "way") = some (Value.ref aw))
        ?n6 ?n7 ?n8
      case n1 =>
        intro p hp
        refine N10 p ?_
        simp only [List.mem_cons] at hp ⊢
        rcases hp with h | h | h | h | h | h | h
        · exact .inl h
        · exact .inr (.inr (.inr (.inr (.inl h))))
        · exact .inr (.inr (.inr (.inr (.inr (.inl h)))))
        · exact .inr (.inl h)
        · exact .inr (.inr (.inl h))
        · exact .inr (.inr (.inr (.inl h)))
        · exact .inr (.inr (.inr (.inr (.inr (.inr h)))))
      case n2 => exact Ne.symm (Nat.ne_of_lt (lt10 (C7, oC8) (.tail _ (.tail _ (.tail _ (.head _))))))
      case n3 => exact Ne.symm (Nat.ne_of_lt (lt10 (D7, lst zs) (.tail _ (.tail _ (.tail _ (.tail _ (.head _)))))))
      case n4 =>
        refine Off3.of fun p hp => ⟨Nat.ne_of_lt (lt10 p ?_), ?_⟩
        · simp only [List.mem_cons] at hp ⊢
          rcases hp with h | h | h | h
          · exact .inl h
          · exact .inr (.inl h)
          · exact .inr (.inr (.inl h))
          · exact .inr (.inr (.inr (.inr (.inr h))))
        · rcases List.mem_cons.mp hp with rfl | hp
          · exact (o3 _ hcL).2
          · rcases List.mem_cons.mp hp with rfl | hp
            · exact (o3 _ haL).2
            · rcases List.mem_cons.mp hp with rfl | hp
              · exact ⟨ne7.1, ne7.2.1⟩
              · exact (o3 _ hp).2
      case n5 =>
        have q1 := e3.length
        rw [insAll_len] at q1
        have q2 : (List.take i (waysOf k)).length ≤ 24 := Nat.le_trans (List.length_take_le' ..) (waysOf_count k hk4)
        have q3 := Nat.mul_le_mul q2 (show k + 1 ≤ 4 by omega)
        rw [sizeLine_eq]
        omega
      case n6 => exact ⟨nw, rfl, off7, fun p hp => hp, by simpa using e3, e4, mW⟩
      case n8 =>
        rintro h13 tk13 oC13 m13 ys13 news13 ⟨rest, rfl, r1, r2, r3, r4, r5⟩ hNs13 F13 N13 off13
        refine hRR _ h13 _ oC13 m13 ys13 rest hNs13 F13 (fun p hp => N13 p ?_) r1 ⟨cW, r2 _ (e2 _ (by rw [← hL5]; exact .tail _ (.head _)))⟩ ⟨by omega, fun p hp => r2 p (e2 p hp), ?_, r4⟩
        · simp only [List.mem_cons] at hp ⊢
          rcases hp with h | h | h | h
          · exact .inr (.inr (.inr (.inr (.inl h))))
          · exact .inl h
          · exact .inr (.inl h)
          · exact .inr (.inr (.inr (.inr (.inr h))))
        · have e9 : List.take (k + 1) (insOne k ws) = insOne k ws := List.take_of_length_le (by rw [insOne_count]; exact Nat.le_refl _)
          rw [e9] at r3
          rw [insAll_take k _ i ws hws]
          exact r3
      rintro j tj ys' news' m' h11 tk11 oC11 Qy hj ⟨rest, rfl, r1, r2, r3, r4, r5⟩ hNs11 F11 N11 off11 hQy
      clear F9 N9' R9 F10 N10
      have hwl : ws.length = k := waysOf_len k ws (List.mem_of_getElem? hws)
      have hwl4 : ws.length ≤ 4 := by omega
      dsimp only
      have hnw11 := news_lt N11
      have mW' : (fun y => if y = Str.ofString "i" then some (Value.int (j : Int) tj) else m' y) (Str.ofString "way") = some (Value.ref aw) := by dsimp only; rw [if_neg (by decide)]; exact r5
      have mI' : (fun y => if y = Str.ofString "i" then some (Value.int (j : Int) tj) else m' y) (Str.ofString "i") = some (Value.int (j : Int) tj) := by simp
      generalize hm11 : (fun y => if y = Str.ofString "i" then some (Value.int (j : Int) tj) else m' y) = m11 at hNs11 mW' mI' ⊢
      k_steps
      rename_i D12 ws12 h12 F12 N12 hI12 lt12
      have q9 := lt12.2.2.2.2.1
      have qC := lt12.2.2.2.2.2.1
      have qD := lt12.2.2.2.2.2.2.1
      have qk := lt12.2.2.2.2.2.2.2.1
      have q7 := lt12.2.2.2.2.2.2.2.2.2.1
      have qr := lt12.2.2.2.2.2.2.2.2.2.2
      have N13 : News g' L' h12 ((I9, rangeIt ((j : Int) + 1) (((k + 1 : Nat) : Int) - j - 1) 1) :: (C7, oC11) :: (D7, lst ys') :: (L' + 1, o5) :: (aw, listO vals.toArray cc) :: (I7, oI7) :: (D12, listO ws12.toArray 0) :: rest) := fun p hp => by
        refine N12 p ?_
        simp only [List.mem_cons] at hp ⊢
        rcases hp with h | h | h | h | h | h | h | h
        · exact .inr (.inr (.inr (.inr (.inr (.inl h)))))
        · exact .inr (.inr (.inr (.inr (.inr (.inr (.inl h))))))
        · exact .inr (.inr (.inr (.inr (.inr (.inr (.inr (.inl h)))))))
        · exact .inr (.inr (.inr (.inr (.inr (.inr (.inr (.inr (.inl h))))))))
        · exact .inr (.inr (.inr (.inr (.inr (.inr (.inr (.inr (.inr (.inl h)))))))))
        · exact .inr (.inr (.inr (.inr (.inr (.inr (.inr (.inr (.inr (.inr (.inl h))))))))))
        · exact .inl h
        · exact .inr (.inr (.inr (.inr (.inr (.inr (.inr (.inr (.inr (.inr (.inr h))))))))))
      have qI : I < D12 := allLt_mem qr (I, rangeIt ((k : Int) + 1) (4 - (k : Int) - 1) 1) (r2 _ (e2 _ (by rw [← hL5]; exact .head _)))
      have off11m := off11.mem
      refine hQy _ h12 _ _ F12 N13 (Off3.of fun p hp => ?_) ⟨(D12, listO ws12.toArray 0) :: rest, rfl, ⟨⟨Nat.ne_of_gt q7, Nat.ne_of_gt qC, Nat.ne_of_gt qD⟩, r1⟩, fun p hp => .tail _ (r2 p hp), ?_, fun p hp => ?_, ?_⟩
      · simp only [List.mem_cons] at hp
        rcases hp with rfl | rfl | rfl | rfl | hp
        · exact off11m _ (.head _)
        · exact off11m _ (.tail _ (.head _))
        · exact off11m _ (.tail _ (.tail _ (.head _)))
        · exact ⟨Nat.ne_of_gt q9, Nat.ne_of_gt qC, Nat.ne_of_gt qD⟩
        · exact off11m _ (.tail _ (.tail _ (.tail _ hp)))
      · rw [insOne_get k ws j hj, ← List.append_assoc]
        refine (r3.mono fun p hp => .tail _ hp).snoc (.head _) ?_
        rw [Int.toNat_natCast, List.append_assoc] at hI12
        exact hI12
      · rcases List.mem_cons.mp hp with rfl | hp
        · exact .inl ⟨Nat.ne_of_gt qI, Nat.ne_of_gt qk⟩
        · exact r4 p hp
      · dsimp only; rw [if_neg (by decide)]; exact r5
  · have hk : k = 4 := by omega
    subst hk
    refine next_range_end rfl F3 N3 neI (by decide) ?_
    intro h4 F4 N4
    dsimp only
    refine hQf _ _ ?_
    dsimp only
    clear neI N3 F3
    have hnw4 := news_lt N4
    refine wpC_execs_cons (wpC_any ?_)
    k_steps
    rename_i aT h5 lt6 h6 F6' N6
    have F6 : Fr g' L' h6 (fun y => if y = Str.ofString "told" then some (Value.ref aT) else if y = Str.ofString "ways" then some (Value.ref Wd) else if y = Str.ofString "numbers" then some (Value.ref l) else none) := Fr_eq F6' (fun y => rfl)
    clear F6'
    refine wpC_execs_cons (hideC fun Qg hQg => wpC_For ?_)
    k_steps
    dsimp only
    refine iterC_list (c := cW) (its := ys.toArray) rfl rfl rfl F6 N6 (.tail _ (.head _))
      (RJ aT (fun y => if y = Str.ofString "told" then some (Value.ref aT) else if y = Str.ofString "ways" then some (Value.ref Wd) else if y = Str.ofString "numbers" then some (Value.ref l) else none) ((Wd, listO ys.toArray cW) :: (L' + 1, oc) :: (l, W.listOf #[.int n0 t0, .int n1 t1, .int n2 t2, .int n3 t3] c) :: stuff) [n0, n1, n2, n3])
      ?j1 ?j2 ?j3 ?j4
    case j1 =>
      rintro i m' nw ⟨o1, o2, o3, o4, o5, o6, o7, tvals, cT, rest, rfl, rfl, r1, r2, r3⟩
      exact ⟨cW, .tail _ (r1 _ (.head _))⟩
    case j2 =>
      refine ⟨_, _, _, _, _, _, _, [], 0, _, kR_none _ rfl rfl rfl rfl rfl rfl rfl, rfl, fun p hp => hp, fun p hp => ?_, .nil⟩
      obtain ⟨q1, q2, q3, q4⟩ := lt6
      rcases List.mem_cons.mp hp with rfl | hp
      · exact Nat.ne_of_lt q1
      rcases List.mem_cons.mp hp with rfl | hp
      · exact Nat.ne_of_lt q2
      rcases List.mem_cons.mp hp with rfl | hp
      · exact Nat.ne_of_lt q3
      · exact Nat.ne_of_lt (allLt_mem q4 p hp)
    case j4 =>
      rintro h24 tk24 m24 news24 F24 N24 ⟨o1, o2, o3, o4, o5, o6, o7, tvals, cT, rest, rfl, rfl, r1, r2, r3⟩
      dsimp only
      refine hQg _ _ ?_
      dsimp only
      clear F6 N6
      refine wpC_execs_cons (wpC_any ?_)
      k_steps
      rename (News h₀ L h24 _) => N25
      rename (Fr h₀ L h24 _) => F25
      rw [List.size_toArray, hW.length, List.take_length] at r3
      refine hret _ _ _ ((aT, listO tvals.toArray cT) :: rest) ⟨aT, tvals, cT, rest, rfl, rfl, r3⟩ F25 fun p hp => N25 p ?_
      rcases List.mem_append.mp hp with hp | hp
      · exact hp
      rcases List.mem_cons.mp hp with rfl | hp
      · exact .tail _ (r1 _ (.tail _ (.tail _ (.head _))))
      · exact .tail _ (r1 p (.tail _ (.tail _ (.tail _ (hsub p hp)))))
    rintro I6 oI6 i v m₁ news₁ h7 tk7 Qb hI6 hi hv ⟨o1, o2, o3, o4, o5, o6, o7, tvals, cT, rest, rfl, rfl, r1, r2, r3⟩ hne6 hIt6 F7' N7' hQb
    obtain ⟨aw, vals, cc, ws, rfl, ha, hints, hws⟩ := hW.get i v (by simpa using hv)
    have F7 := Fr_eq F7' (fun y => kR_way ..)
    have hwl : ws.length = 4 := waysOf_len 4 ws (List.mem_of_getElem? hws)
    have ml : (l, W.listOf #[.int n0 t0, .int n1 t1, .int n2 t2, .int n3 t3] c) ∈ rest := r1 _ (.tail _ (.tail _ (.head _)))
    have mw : (aw, listO vals.toArray cc) ∈ rest := r1 _ (.tail _ (.tail _ (.tail _ ha)))
    have N7 : News g' L' h7 ((l, W.listOf #[.int n0 t0, .int n1 t1, .int n2 t2, .int n3 t3] c) :: (aw, listO vals.toArray cc) :: (I6, oI6) :: (aT, listO tvals.toArray cT) :: rest) := fun p hp => by
      rcases List.mem_cons.mp hp with rfl | hp
      · exact N7' _ (.tail _ (.tail _ ml))
      rcases List.mem_cons.mp hp with rfl | hp
      · exact N7' _ (.tail _ (.tail _ mw))
      · exact N7' _ hp
    clear F6 N6 F7' N7'
    have hnw7 := news_lt N7
    refine wpC_execs_cons (wpC_any ?_)
    k_steps
    rename_i aS _ _ _ ltS h8 F8' N8
    have F8 := Fr_eq F8' (fun y => kR_seen ..)
    clear F8'
    refine wpC_execs_cons (wpC_any ?_)
    k_steps
    rename (Fr g' L' _ _) => F9'
    rename (News g' L' _ _) => N9
    have F9 := Fr_eq F9' (fun y => kR_above ..)
    clear F9'
    refine wpC_execs_cons (wpC_any ?_)
    k_steps
    rename (Fr g' L' _ _) => F10'
    rename (News g' L' _ _) => N10
    have F10 := Fr_eq F10' (fun y => kR_below ..)
    clear F10'
    refine wpC_execs_cons (hideC fun Qh hQh => wpC_For ?_)
    k_steps
    rename (Fr g' L' _ _) => F11
    rename (News g' L' _ _) => N11
    rename (IsRange _ _ _ _ _ _ _ _) => R11
    dsimp only
    refine iterC_range (n := 4) R11 (small_of (by omega) (by omega) (by omega)) (range_one 4) rfl rfl rfl F11 N11
      (RK aS aw (fun y => if y = Str.ofString "told" then some (Value.ref aT) else if y = Str.ofString "ways" then some (Value.ref Wd) else if y = Str.ofString "numbers" then some (Value.ref l) else none) ((l, W.listOf #[.int n0 t0, .int n1 t1, .int n2 t2, .int n3 t3] c) :: (aw, listO vals.toArray cc) :: (I6, oI6) :: (aT, listO tvals.toArray cT) :: rest) [n0, n1, n2, n3] ws)
      ⟨_, _, _, _, _, [], 0, rfl, rfl, .nil⟩ ?_ ?_
    · rintro I12 f tf m₁ news₁ h12 tk12 Qc hI12 hf ⟨o5, o6, o7, t8, t9, svals, cS, rfl, rfl, hseen⟩ hne12 F12' N12 hQc
      have F12 := Fr_eq F12' (fun y => kR_first ..)
      clear F11 N11 F12'
      have hnw12 := news_lt N12
      have hmem : ws ∈ waysOf 4 := List.mem_of_getElem? hws
      have hf4 : f ∈ [0, 1, 2, 3] := by
        have : f = 0 ∨ f = 1 ∨ f = 2 ∨ f = 3 := by omega
        rcases this with rfl | rfl | rfl | rfl <;> decide
      obtain ⟨hch, hsl, hrl⟩ := chain_all ws hmem f hf4
      refine wpC_execs_cons (wpC_any ?_)
      k_steps
      rename (Fr g' L' _ _) => F13'
      rename (News g' L' _ _) => N13
      have F13 := Fr_eq F13' (fun y => kR_ring ..)
      clear F13'
      refine wpC_execs_cons (wpC_any ?_)
      k_steps
      rename (Fr g' L' _ _) => F14'
      rename (News g' L' _ _) => N14
      have F14 := Fr_eq F14' (fun y => kR_place ..)
      clear F14'
      refine wpC_execs_cons (wpC_any (hide fun Qw hQw => wpAny_While ?_))
      dsimp only
      refine codeAny_whileLoop
        (RW g' L' aS aw (fun y => if y = Str.ofString "told" then some (Value.ref aT) else if y = Str.ofString "ways" then some (Value.ref Wd) else if y = Str.ofString "numbers" then some (Value.ref l) else none) [n0, n1, n2, n3] ws f tf t8 t9 I12 (rangeIt (0 + ((f + 1 : Nat) : Int) * 1) ((4 : Nat) - ((f + 1 : Nat) : Int)) 1) ((l, W.listOf #[.int n0 t0, .int n1 t1, .int n2 t2, .int n3 t3] c) :: (aw, listO vals.toArray cc) :: (I6, oI6) :: (aT, listO tvals.toArray cT) :: rest) s)
        ?_ (ringAt ws f).length ⟨_, _, [], ringAt ws f, svals, cS, _, _, _, rfl, rfl, rfl, ?w1, F14, N14, by simpa using hseen⟩
      case w1 =>
        rw [List.append_nil, show (0 : Int) + (f : Int) * 1 = f from by omega]
        exact hch
      rintro n s' ⟨h15, tk15, dn, td, svals5, cS5, tr, tp, place, rfl, rfl, hdt, hc5, F15, N15, hs5⟩
      clear F14 N14 hnw12
      have hnw15 := news_lt N15
      refine wpAny_mono (Q := fun b s₂ => Halt (b = (!((seenAt ws f ++ dn).any (· == place))) ∧ ∃ tk2, s₂ = { s with heap := h15, toks := tk2 })) (E := fun _ _ => False) ?t1 ?t2 (fun _ _ x => x.elim)
      case t1 =>
        k_steps
        exact ⟨rfl, _, rfl⟩
      rintro b s₂ ⟨rfl, tk2, rfl⟩
      rw [any_mem]
      cases td with
      | nil =>
        have hm5 := chain_nil hc5
        rw [decide_eq_true hm5, if_neg (by decide)]
        rw [List.append_nil] at hdt
        subst hdt
        refine wpAny_execs_nil (hQw _ _ ?_)
        dsimp only
        refine wpC_execs_cons (wpC_any ?_)
        k_steps
        rename (Fr g' L' _ _) => F16'
        rename (News g' L' _ _) => N16
        have F16 := Fr_eq F16' (fun y => kR_above ..)
        clear F16'
        refine wpC_execs_cons (wpC_any ?_)
        k_steps
        rename (Fr g' L' _ _) => F17'
        rename (News g' L' _ _) => N17
        have F17 := Fr_eq F17' (fun y => kR_below ..)
        clear F17'
        rw [above_step, below_step] at F17
        refine wpC_execs_nil (hQc _ _ _ _ F17 N17 (fun p hp => ?_) ⟨_, _, _, _, _, svals5, cS5, rfl, rfl, hs5⟩)
        rcases List.mem_cons.mp hp with rfl | hp
        · exact hne12 (aS, listO svals.toArray cS) (.head _)
        · exact hne12 p (.tail _ hp)
      | cons q r =>
        obtain ⟨rfl, q0, q4, hn5, q', hq', hc6⟩ := chain_cons hc5
        rw [decide_eq_false hn5]
        rw [if_pos (show (!false) = true from rfl)]
        refine hide fun Qt hQt => ?_
        have qS1 := ltS.1
        have qS2 := ltS.2.1
        have qS3 := ltS.2.2.1
        have qS4 := ltS.2.2.2.1
        have qS5 := ltS.2.2.2.2
        k_steps
        have zS := N15 (aS, listO svals5.toArray cS5) (.tail _ (.head _))
        have hsz5 : svals5.toArray.size ≤ sizeLine := by
          have e5 := hs5.length
          have e6 := congrArg List.length hdt
          rw [List.length_append] at e5 e6
          rw [List.size_toArray, e5, sizeLine_eq]
          omega
        refine append_at (hsz := hsz5) zS.1 fun h16 hs16 hS16 => ?_
        have up16 : ∀ c x, c ≠ aS → h15.get? c = some x → h16.get? c = some x := fun c x hc e => hs16.extBut c x hc e
        rw [List.push_toArray] at hS16
        have F16 := fr_put0 F15 zS.2.1 zS.2.2 up16
        have N16 : News g' L' h16 ((I12, rangeIt (0 + ((f + 1 : Nat) : Int) * 1) ((4 : Nat) - ((f + 1 : Nat) : Int)) 1) :: (aS, listO (svals5 ++ [Value.int q tp]).toArray (cS5 + 1)) :: (l, W.listOf #[.int n0 t0, .int n1 t1, .int n2 t2, .int n3 t3] c) :: (aw, listO vals.toArray cc) :: (I6, oI6) :: (aT, listO tvals.toArray cT) :: rest) := fun p hp => by
          rcases List.mem_cons.mp hp with rfl | hp
          · have z := N15 _ (.head _)
            exact ⟨up16 _ _ (Ne.symm (hne12 _ (.head _))) z.1, z.2⟩
          rcases List.mem_cons.mp hp with rfl | hp
          · exact ⟨hS16, zS.2⟩
          have z := N15 p (.tail _ (.tail _ hp))
          refine ⟨up16 _ _ ?_ z.1, z.2⟩
          rcases List.mem_cons.mp hp with rfl | hp
          · exact Nat.ne_of_lt qS1
          rcases List.mem_cons.mp hp with rfl | hp
          · exact Nat.ne_of_lt qS2
          rcases List.mem_cons.mp hp with rfl | hp
          · exact Nat.ne_of_lt qS3
          rcases List.mem_cons.mp hp with rfl | hp
          · exact Nat.ne_of_lt qS4
          exact Nat.ne_of_lt (allLt_mem qS5 p hp)
        clear F15 N15
        refine wpAny_mono (Q := fun fl s₃ => Halt (fl = .next ∧ ∃ h tk tr' tp', s₃ = { s with heap := h, toks := tk } ∧
          Fr g' L' h (kR (fun y => if y = Str.ofString "told" then some (Value.ref aT) else if y = Str.ofString "ways" then some (Value.ref Wd) else if y = Str.ofString "numbers" then some (Value.ref l) else none) (some (Value.ref aw)) (some (Value.ref aS)) (some (Value.int (aboveTo ws [n0, n1, n2, n3] f) t8)) (some (Value.int (belowTo ws [n0, n1, n2, n3] f) t9)) (some (.int (0 + (f : Int) * 1) tf)) (some (.int (ringSum [n0, n1, n2, n3] dn + [n0, n1, n2, n3].getD q.toNat 0) tr')) (some (.int (ws.getD q.toNat 0) tp'))) ∧
          News g' L' h ((I12, rangeIt (0 + ((f + 1 : Nat) : Int) * 1) ((4 : Nat) - ((f + 1 : Nat) : Int)) 1) :: (aS, listO (svals5 ++ [Value.int q tp]).toArray (cS5 + 1)) :: (l, W.listOf #[.int n0 t0, .int n1 t1, .int n2 t2, .int n3 t3] c) :: (aw, listO vals.toArray cc) :: (I6, oI6) :: (aT, listO tvals.toArray cT) :: rest))) (E := fun _ _ => False) ?t3 ?t4 (fun _ _ x => x.elim)
        case t3 =>
          k_steps
          exact ⟨rfl, _, _, _, _, rfl, Fr_eq (by assumption) (fun y => by rw [kR_ring, kR_place]), by assumption⟩
        rintro fl s₃ ⟨rfl, h20, tk20, tr20, tp20, rfl, F20, N20⟩
        have eq' : ws.getD q.toNat 0 = q' := by rw [List.getD_eq_getElem?_getD, hq']; rfl
        rw [eq'] at F20
        rw [← ringSum_snoc] at F20
        refine hQt _ _ ?_
        refine ⟨r.length, Nat.lt_succ_self _, h20, tk20, dn ++ [q], r, _, _, _, _, _, rfl, rfl, by rw [← hdt, List.append_assoc]; rfl, by rw [← List.append_assoc]; exact hc6, F20, N20, ?_⟩
        rw [← List.append_assoc]
        exact hs5.append (.cons _ _ .nil)
    · rintro h21 tk21 m21 news21 F21 N21 hne21 ⟨o5, o6, o7, t8, t9, svals, cS, rfl, rfl, hseen⟩
      dsimp only
      refine hQh _ _ ?_
      dsimp only
      clear F11 N11
      have hnw21 := news_lt N21
      refine wpC_execs_cons (wpC_any ?_)
      k_steps
      rename_i D22 h22 F22 N22 lt22
      have d6 := lt22.2.2.2.1
      have dT := lt22.2.2.2.2.1
      have zT := N22 (aT, listO tvals.toArray cT) (.tail _ (.tail _ (.tail _ (.tail _ (.tail _ (.head _))))))
      have hszT : tvals.toArray.size ≤ sizeLine := by
        have e5 := r3.length
        rw [List.length_map] at e5
        have e6 : (List.take i (waysOf 4)).length ≤ 24 := Nat.le_trans (List.length_take_le' ..) (waysOf_count 4 (by decide))
        rw [List.size_toArray, e5, sizeLine_eq]
        omega
      refine append_at (hsz := hszT) zT.1 fun h23 hs23 hS23 => ?_
      have up23 : ∀ c x, c ≠ aT → h22.get? c = some x → h23.get? c = some x := fun c x hc e => hs23.extBut c x hc e
      rw [List.push_toArray] at hS23
      have F23 := fr_put0 F22 zT.2.1 zT.2.2 up23
      have N23 : News g' L' h23 ((I6, oI6) :: (aT, listO (tvals ++ [Value.ref D22]).toArray (cT + 1)) :: (D22, pairO (aboveTo ws [n0, n1, n2, n3] 4) (belowTo ws [n0, n1, n2, n3] 4) t8 t9) :: rest) := fun p hp => by
        rcases List.mem_cons.mp hp with rfl | hp
        · have z := N22 (I6, oI6) (.tail _ (.tail _ (.tail _ (.tail _ (.head _)))))
          exact ⟨up23 _ _ (Ne.symm (hne6 _ (.head _))) z.1, z.2⟩
        rcases List.mem_cons.mp hp with rfl | hp
        · exact ⟨hS23, zT.2⟩
        rcases List.mem_cons.mp hp with rfl | hp
        · have z := N22 _ (.head _)
          exact ⟨up23 _ _ (Nat.ne_of_gt dT) z.1, z.2⟩
        have z := N22 p (.tail _ (.tail _ (.tail _ (.tail _ (.tail _ (.tail _ hp))))))
        exact ⟨up23 _ _ (r2 p hp) z.1, z.2⟩
      clear F22 N22
      k_steps
      refine wpC_execs_nil (hQb h23 _ _ _ F23 N23 (fun p hp => ?_) ⟨_, _, _, _, _, _, _, tvals ++ [Value.ref D22], cT + 1, (D22, pairO (aboveTo ws [n0, n1, n2, n3] 4) (belowTo ws [n0, n1, n2, n3] 4) t8 t9) :: rest, rfl, rfl, fun p hp => .tail _ (r1 p hp), fun p hp => ?_, ?_⟩)
      · rcases List.mem_cons.mp hp with rfl | hp
        · exact hne6 (aT, listO tvals.toArray cT) (.head _)
        rcases List.mem_cons.mp hp with rfl | hp
        · exact Nat.ne_of_gt d6
        · exact hne6 p (.tail _ hp)
      · rcases List.mem_cons.mp hp with rfl | hp
        · exact Nat.ne_of_gt dT
        · exact r2 p hp
      · rw [List.take_add_one, hws, List.map_append]
        exact (r3.mono fun p hp => .tail _ hp).snoc (.head _)
end Mine

end
local macro_rules | `(tactic| walk_at "none here") => `(tactic| skip)
theorem Join.rstbt : True := by
  w_top off
  trivial
section
open PySem PySem.W PyProof.Rows PySem.Calls PySem.Spec
set_option maxRecDepth 100000
set_option maxHeartbeats 8000000
namespace Mine
local macro_rules | `(tactic| k_all) => `(tactic| exact ne_of_all_lt (by assumption))
theorem lt_of_allLt {d : Addr} {l : List (Addr × Obj)} (h : AllLt d l) : ∀ p ∈ l, p.1 < d := by
  induction l with
  | nil => intro p hp; cases hp
  | cons q r ih =>
    intro p hp
    rcases List.mem_cons.mp hp with hp | hp
    · rw [hp]; exact And.left h
    · exact ih (And.right h) p hp
theorem fr_twice {h₀ h : Heap} {L : Addr} {m : Str → Option Value} {x : Str} {v v' : Option Value} (F : Fr h₀ L h (fun y => if y = x then v else if y = x then v' else m y)) : Fr h₀ L h (fun y => if y = x then v else m y) := by
  have e : (fun y => if y = x then v else if y = x then v' else m y) = (fun y => if y = x then v else m y) := by
    funext y
    by_cases hy : y = x
    · rw [if_pos hy, if_pos hy]
    · rw [if_neg hy, if_neg hy, if_neg hy]
  rw [e] at F; exact F
theorem cutQ {M : Model} {A : Around} {E : Value → Shared → Prop} {s : Shared} {env : Env} {st : Stmt} {rest : List Stmt} {Q : Flow → Shared → Prop} (P : Shared → Prop)
    (h1 : ∀ Q' : Flow → Shared → Prop, (∀ s', P s' → Q' .next s') → wpAny M A (exec st env) Q' E s) (h2 : ∀ s', P s' → wpAny M A (execs rest env) Q E s') : wpAny M A (execs (st :: rest) env) Q E s :=
  wpAny_execs_cons (h1 _ fun s' hP => h2 s' hP)
theorem drop_own {h₀ h : Heap} {L : Addr} {own news : List (Addr × Obj)} (N : News h₀ L h (own ++ news)) : News h₀ L h news := fun p hp => N p (List.mem_append_right _ hp)
theorem cell_ctr (w : World) (d : Int) (t : Tok) (news : List (Addr × Obj)) (h0 : 0 ≤ d) (h1 : d < 28656) (hc : CellLens d) :
    Ctr w 41 [.int d t] news (fun v own => ∃ a t1 t2, v = .ref a ∧ own = [(a, { cls := .type "tuple", data := .seq #[.int (num d) t1, .str (cellText d) t2] 0 })] ∧ ∀ p ∈ news, p.1 < a) := by
  unfold Ctr
  k_fill
  intro p loose mean mg mb dp un gd cn cs a ccd cl outer A₀ base h₀ L m s Q E B F X N T hk hdp hun hret
  refine wpAny_call ?_
  k_dflt (refine' code_def (binds := [(Str.ofString "drawn", .int d t)]) ?k1 ?k2 ?k3 ?k4 ?k5 ?kA ?kF ?kK ?k6 ?k7 ?k8 ?k9 ?kB ?_ ?c2 ?c3 ?c4 ?c5; (case kA => exact rfl); (case kF => exact rfl); (case kK => assumption); (case k1 => k_asm); (case k2 => k_asm); (case k3 => k_asm); (case k4 => k_asm); (case k5 => k_asm); (case k6 => k_is); (case k7 => k_is); (case k8 => ktr_room); (case k9 => exact BindsTo.of_eq rfl); (case c5 => decide); (case kB => exact locs rfl); (case c2 => exact rfl); (case c3 => exact rfl); (case c4 => exact rfl); k_whole; intro g' L' h' FG' F' N' B' X' T'; (try dsimp only); (try k_lift B'); (try k_fold))
  have hnw : ∀ p ∈ news, p.1 < h'.objs.size := fun p hp => Heap.lt_size (N' p hp).1
  k_with "table" => skip
  generalize hs1 : ({ heap := h', gens := s.gens, drawn := s.drawn, toks := s.toks + [(Str.ofString "drawn", Value.int d t)].length, os := s.os } : Shared) = s1
  have F1 : Fr g' L' s1.heap (fun y => List.lookup y [(Str.ofString "drawn", Value.int d t)]) := by rw [← hs1]; exact F'
  have N1 : News g' L' s1.heap news := by rw [← hs1]; exact N'
  clear F' N'
  refine cutQ (fun s' => ∃ h2 tk2 t2, s' = { s1 with heap := h2, toks := tk2 } ∧ Fr g' L' h2 (fun y => if y = Str.ofString "number" then some (.int (d.fmod 199 - 99) t2) else List.lookup y [(Str.ofString "drawn", Value.int d t)]) ∧ News g' L' h2 news) (fun Q' hQ' => ?_) ?_
  · k_steps
    all_goals (try dsimp only)
    all_goals refine hQ' _ ?_
    exact ⟨_, _, _, rfl, by assumption, by assumption⟩
  rintro s' ⟨h2, tk2, t2, rfl, F2, N2⟩
  refine cutQ (fun s' => ∃ h3 tk3 t3, s' = { s1 with heap := h3, toks := tk3 } ∧ Fr g' L' h3 (fun y => if y = Str.ofString "way" then some (.int (d.fdiv 199) t3) else if y = Str.ofString "number" then some (.int (d.fmod 199 - 99) t2) else List.lookup y [(Str.ofString "drawn", Value.int d t)]) ∧ News g' L' h3 news) (fun Q' hQ' => ?_) ?_
  · clear F1 N1
    k_steps
    all_goals (try dsimp only)
    all_goals refine hQ' _ ?_
    exact ⟨_, _, _, rfl, by assumption, by assumption⟩
  rintro s' ⟨h3, tk3, t3, rfl, F3, N3⟩
  clear F1 N1 F2 N2
  refine cutQ (fun s' => ∃ h4 tk4 t4, s' = { s1 with heap := h4, toks := tk4 } ∧ Fr g' L' h4 (fun y => if y = Str.ofString "sign" then some (.str (signOf d) t4) else if y = Str.ofString "way" then some (.int (d.fdiv 199) t3) else if y = Str.ofString "number" then some (.int (d.fmod 199 - 99) t2) else List.lookup y [(Str.ofString "drawn", Value.int d t)]) ∧ News g' L' h4 news) (fun Q' hQ' => ?_) ?_
  · have e1 : num d < 0 → signOf d = Str.ofString "-" := fun h => by unfold signOf; rw [if_pos h]
    have e2 : ¬ num d < 0 → num d = 0 → signOf d = [Str.ofString "", Str.ofString "+", Str.ofString "-"].getD ((way d).fmod 3).toNat Str.empty := fun h h' => by unfold signOf; rw [if_neg h, if_pos h']
    have e3 : ¬ num d < 0 → ¬ num d = 0 → signOf d = [Str.ofString "", Str.ofString "+", Str.ofString ""].getD ((way d).fmod 3).toNat Str.empty := fun h h' => by unfold signOf; rw [if_neg h, if_neg h']
    k_steps
    all_goals (try dsimp only)
    all_goals refine hQ' _ ?_
    · rw [e1 (by omega)]; exact ⟨_, _, _, rfl, by assumption, by assumption⟩
    · rw [e2 (by omega) (by omega)]; exact ⟨_, _, _, rfl, by assumption, drop_own (own := [_]) (by assumption)⟩
    · rw [e3 (by omega) (by omega)]; exact ⟨_, _, _, rfl, by assumption, drop_own (own := [_]) (by assumption)⟩
  rintro s' ⟨h4, tk4, t4, rfl, F4, N4⟩
  clear F3 N3
  refine cutQ (fun s' => ∃ h5 tk5 t5, s' = { s1 with heap := h5, toks := tk5 } ∧ Fr g' L' h5 (fun y => if y = Str.ofString "figures" then some (.str (figs0 d) t5) else if y = Str.ofString "sign" then some (.str (signOf d) t4) else if y = Str.ofString "way" then some (.int (d.fdiv 199) t3) else if y = Str.ofString "number" then some (.int (d.fmod 199 - 99) t2) else List.lookup y [(Str.ofString "drawn", Value.int d t)]) ∧ News g' L' h5 news) (fun Q' hQ' => ?_) ?_
  · have l1 := hc.zero
    have l2 := hc.abs
    k_steps
    all_goals (try dsimp only)
    all_goals refine hQ' _ ?_
    exact ⟨_, _, _, rfl, by assumption, by assumption⟩
  rintro s' ⟨h5, tk5, t5, rfl, F5, N5⟩
  clear F4 N4
  have l1 := hc.figs0
  refine cutQ (fun s' => ∃ h6 tk6 t6, s' = { s1 with heap := h6, toks := tk6 } ∧ Fr g' L' h6 (fun y => if y = Str.ofString "figures" then some (.str (figs d) t6) else if y = Str.ofString "sign" then some (.str (signOf d) t4) else if y = Str.ofString "way" then some (.int (d.fdiv 199) t3) else if y = Str.ofString "number" then some (.int (d.fmod 199 - 99) t2) else List.lookup y [(Str.ofString "drawn", Value.int d t)]) ∧ News g' L' h6 news) (fun Q' hQ' => ?_) ?_
  · have e1 : ((d.fdiv 199).fdiv 6).fmod 2 = 1 → (1 : Int) < ((figs0 d).length : Int) → figs d = Txt.slice (figs0 d) none (some (-1)) ++ Str.ofString "_" ++ Txt.slice (figs0 d) (some (-1)) none := fun h h' => by unfold figs; rw [if_pos ⟨h, by omega⟩]
    have e2 : ((d.fdiv 199).fdiv 6).fmod 2 = 1 → ¬ (1 : Int) < ((figs0 d).length : Int) → figs d = figs0 d := fun _ h' => by unfold figs; rw [if_neg (fun q => h' (by have := q.2; omega))]
    have e3 : ((d.fdiv 199).fdiv 6).fmod 2 ≠ 1 → figs d = figs0 d := fun h => by unfold figs; rw [if_neg (fun q => h q.1)]
    k_steps
    all_goals (try dsimp only)
    all_goals refine hQ' _ ?_
    · rw [e1 (by assumption) (by assumption)]
      exact ⟨_, _, _, rfl, fr_twice (by assumption), by assumption⟩
    · rw [e2 (by assumption) (by assumption)]; exact ⟨_, _, _, rfl, F5, N5⟩
    · rw [e3 (by assumption)]; exact ⟨_, _, _, rfl, F5, N5⟩
  rintro s' ⟨h6, tk6, t6, rfl, F6, N6⟩
  clear F5 N5 l1
  have l1 := hc.figs
  have l2 := hc.sign
  refine cutQ (fun s' => ∃ h7 tk7 t7, s' = { s1 with heap := h7, toks := tk7 } ∧ Fr g' L' h7 (fun y => if y = Str.ofString "room" then some (.int (room d) t7) else if y = Str.ofString "figures" then some (.str (figs d) t6) else if y = Str.ofString "sign" then some (.str (signOf d) t4) else if y = Str.ofString "way" then some (.int (d.fdiv 199) t3) else if y = Str.ofString "number" then some (.int (d.fmod 199 - 99) t2) else List.lookup y [(Str.ofString "drawn", Value.int d t)]) ∧ News g' L' h7 news) (fun Q' hQ' => ?_) ?_
  · k_steps
    all_goals (try dsimp only)
    all_goals refine hQ' _ ?_
    exact ⟨_, _, _, rfl, by assumption, by assumption⟩
  rintro s' ⟨h7, tk7, t7, rfl, F7, N7⟩
  clear F6 N6
  have r0 := hc.room0
  have r5 := hc.room5
  refine cutQ (fun s' => ∃ h8 tk8 t8, s' = { s1 with heap := h8, toks := tk8 } ∧ Fr g' L' h8 (fun y => if y = Str.ofString "ahead" then some (.int (ahead d) t8) else if y = Str.ofString "room" then some (.int (room d) t7) else if y = Str.ofString "figures" then some (.str (figs d) t6) else if y = Str.ofString "sign" then some (.str (signOf d) t4) else if y = Str.ofString "way" then some (.int (d.fdiv 199) t3) else if y = Str.ofString "number" then some (.int (d.fmod 199 - 99) t2) else List.lookup y [(Str.ofString "drawn", Value.int d t)]) ∧ News g' L' h8 news) (fun Q' hQ' => ?_) ?_
  · k_steps
    all_goals (try dsimp only)
    all_goals refine hQ' _ ?_
    exact ⟨_, _, _, rfl, by assumption, by assumption⟩
  rintro s' ⟨h8, tk8, t8, rfl, F8, N8⟩
  clear F7 N7
  have a0 := hc.ahead0
  have a5 := hc.ahead5
  refine cutQ (fun s' => ∃ h9 tk9 t9, s' = { s1 with heap := h9, toks := tk9 } ∧ Fr g' L' h9 (fun y => if y = Str.ofString "white" then some (.str (white d) t9) else if y = Str.ofString "ahead" then some (.int (ahead d) t8) else if y = Str.ofString "room" then some (.int (room d) t7) else if y = Str.ofString "figures" then some (.str (figs d) t6) else if y = Str.ofString "sign" then some (.str (signOf d) t4) else if y = Str.ofString "way" then some (.int (d.fdiv 199) t3) else if y = Str.ofString "number" then some (.int (d.fmod 199 - 99) t2) else List.lookup y [(Str.ofString "drawn", Value.int d t)]) ∧ News g' L' h9 news) (fun Q' hQ' => ?_) ?_
  · have e1 : (d.fdiv 199).fdiv 72 = 1 → white d = Str.ofString "\t" := fun h => by unfold white; rw [if_pos h]
    have e2 : ¬ (d.fdiv 199).fdiv 72 = 1 → white d = Str.ofString " " := fun h => by unfold white; rw [if_neg h]
    k_steps
    all_goals (try dsimp only)
    all_goals refine hQ' _ ?_
    · rw [e1 (by assumption)]; exact ⟨_, _, _, rfl, by assumption, by assumption⟩
    · rw [e2 (by assumption)]; exact ⟨_, _, _, rfl, by assumption, by assumption⟩
  rintro s' ⟨h9, tk9, t9, rfl, F9, N9⟩
  clear F8 N8
  have w1 := hc.wht
  have m1 := hc.mulA
  have m2 := hc.mulB
  subst hs1
  dsimp only at F9 N9 ⊢
  k_steps
  exact hret _ _ _ [_] ⟨_, _, _, rfl, rfl, by assumption⟩ (by assumption) (by assumption)
end Mine

end
section
open PySem PySem.W PyProof.Rows PySem.Calls PySem.Spec
set_option maxRecDepth 100000
namespace Mine
namespace MapIt
open IntBad
section
variable {prog : Program} {w : World} {A : Around} {E : Value → Shared → Prop} {s : Shared}
/-- a draw of map(int, ..) at the text x: a new ValueError -/
theorem nextOf_bad {M T I l : Addr} {items : Array Value} {i : Nat} {u : Tok} {Q : Value → Shared → Prop} (hh : A.handled = none) (hM : IsMap s.heap M T (.type "int")) (hT : IsOne s.heap T (.ref I)) (hi : s.heap.IsListIter I l i) (hl : s.heap.IsList l items) (hMI : M ≠ I)
    (hx : items[i]? = some (.str (Str.ofString "x") u))
    (hE : ∀ h₁ h' tk e, Heap.SameBut I s.heap h₁ → Heap.NewExc h₁ h' e "ValueError" → E (.ref e) { s with heap := h', toks := tk }) :
    wpAny (model prog w) A (Builtin.SmallTypes.nextOf (.ref M)) Q E s := by
  have hTy : s.TypeIs (.ref M) "map" := ⟨_, hM, rfl⟩
  unfold Builtin.SmallTypes.nextOf
  refine wpAny_bind (wpAny_callSpecial?_slot (name := Str.ofString "__next__") hTy slot_map_next (wpAny_call ?_))
  refine codeAny_call_builtin_own (plainId_quiet slot_map_next.plain _) entry_map_next (slot_map_next.check _ _ _ _ _ _ _ _ hTy (args_map_next_1 _) ?_)
  intro Γ p hc hB
  have hI : Γ.In A.in1 := by
    have := hB.in
    rwa [hc, Around.under_plainId slot_map_next.plain _] at this
  show Sem.wp _ Γ (field (.ref M) 0 >>= _) _ _ p s
  rw [Sem.wp_bind']
  refine on_any (A := A.in1) (wpAny_field (Q := fun v s' => v = .ref T ∧ s = s') (E := fun _ _ => False) hM rfl (x := .ref T) rfl ⟨rfl, rfl⟩) hI (fun v p₁ s₁ h₁ => ?_) (fun _ _ _ h => False.elim h)
  obtain ⟨rfl, rfl⟩ := h₁
  rw [Sem.wp_bind']
  refine on_any (A := A.in1) (wpAny_seqItems (Q := fun v s' => v = some #[.ref I] ∧ s = s') (E := fun _ _ => False) hT rfl ⟨rfl, rfl⟩) hI (fun v p₂ s₂ h₂ => ?_) (fun _ _ _ h => False.elim h)
  obtain ⟨rfl, rfl⟩ := h₂
  rw [Sem.wp_bind']
  simp only [List.forIn_toArray, List.forIn_cons, List.forIn_nil]
  rw [Sem.wp_bind', Sem.wp_bind', Sem.wp_holding]
  refine on_any (A := A.in1) (wpAny_nextOf_list_item (Q := fun v s' => v = .str (Str.ofString "x") u ∧ ∃ h₁, Heap.SameBut I s.heap h₁ ∧ { s with heap := h₁ } = s') (E := fun _ _ => False) hi hl hx fun h₁ _ hs₁ => ⟨rfl, h₁, hs₁, rfl⟩) hI (fun v p₃ s₃ h₃ => ?_) (fun _ _ _ h => False.elim h)
  obtain ⟨rfl, h₁, hs₁, rfl⟩ := h₃
  show Sem.wp _ Γ (field (.ref M) 1 >>= _) _ _ p₃ _
  rw [Sem.wp_bind']
  have hM₁ : IsMap h₁ M T (.type "int") := hs₁.extBut _ _ hMI hM
  refine on_any (A := A.in1) (wpAny_field (s := { s with heap := h₁ }) (Q := fun v s' => v = .type "int" ∧ { s with heap := h₁ } = s') (E := fun _ _ => False) hM₁ rfl (x := .type "int") rfl ⟨rfl, rfl⟩) hI (fun v p₄ s₄ h₄ => ?_) (fun _ _ _ h => False.elim h)
  obtain ⟨rfl, rfl⟩ := h₄
  rw [Sem.wp_bind', Sem.wp_holding]
  show Sem.wp _ Γ (call (.type "int") [.str (Str.ofString "x") u] []) _ _ p₄ _
  refine wp_call_on (code_x (A := A.in1) (hI.enter _ none p₄ (by intro h; cases h)) hh rfl ⟨⟨[.ref M], []⟩, p₄, Γ.below, ?_⟩ fun h' tk e x => hE h₁ h' tk e hs₁ x)
  show (Γ.code, p₄) :: Γ.below = _
  rw [hc]
/-- a draw of map(str, map(int, ..)) at the text x -/
theorem pyNext_bad {M2 T2 M1 T1 I l : Addr} {items : Array Value} {i : Nat} {u : Tok} {Q : Option Value → Shared → Prop} (hh : A.handled = none) (D : Apart M2 T2 M1 T1 I l) (S : St M2 T2 M1 T1 I l items i s.heap) (hx : items[i]? = some (.str (Str.ofString "x") u))
    (hE : ∀ h₁ h' tk e, Heap.SameBut I s.heap h₁ → Heap.NewExc h₁ h' e "ValueError" → E (.ref e) { s with heap := h', toks := tk }) :
    wpAny (model prog w) A (pyNext (.ref M2)) Q E s := by
  have hTy : s.TypeIs (.ref M2) "map" := ⟨_, S.1, rfl⟩
  unfold pyNext
  refine wpAny_bind (wpAny_attempt (wpAny_callSpecial?_slot (name := Str.ofString "__next__") hTy slot_map_next (wpAny_call_entry slot_map_next hTy entry_map_next ?_ (args_map_next_1 _))))
  refine map_next S.1 S.2.1 (nextOf_bad hh S.2.2.1 S.2.2.2.1 S.2.2.2.2.1 S.2.2.2.2.2 D.a3 hx fun h₁ h' tk e hs x => ?_)
  obtain ⟨ob, t, ho, hc, _⟩ := x.there
  refine wpAny_bind (wpAny_isInstance (T := "ValueError") (b := false) ⟨ob, ho, hc⟩ (by rw [isSubtype_type]; kernel_rfl) ?_)
  exact wpAny_throw (hE h₁ h' tk e hs x)
/-- the draws of list(map(str, map(int, l))), the last text being x -/
theorem loop_bad {R : Result → Shared → Prop} (hh : A.handled = none) {M2 T2 M1 T1 I l : Addr} {items : Array Value} {n : Nat} {ns : List Int} {u : Tok} (D : Apart M2 T2 M1 T1 I l) (hT : Told items n ns) (hx : items[n]? = some (.str (Str.ofString "x") u)) (hn : n ≤ 2 ^ 24) (S : Addr) (hSf : S ∉ [M2, T2, M1, T1, I, l]) (res : Value) :
    ∀ (k i : Nat) (s : Shared) (acc : Array Value) (c : Nat), n - i = k → i ≤ n → acc.size = i → St M2 T2 M1 T1 I l items i s.heap → s.heap.get? S = some { cls := .type "list", dict := none, data := .seq acc c, slots := #[] } →
    (∀ h₁ h' tk e, (∀ b o, b ≠ S → b ≠ I → s.heap.get? b = some o → h₁.get? b = some o) → Heap.NewExc h₁ h' e "ValueError" → R (.error (.ref e)) { s with heap := h', toks := tk }) →
    codeAny (model prog w) A (.builtin "list.extend.loop" ⟨[.ref S, .ref M2, res], []⟩) R s := by
  have hSI : S ≠ I := fun e => hSf (by simp [e])
  intro k
  induction k with
  | zero =>
    intro i s acc c hk hi _ hst hS hR
    have hin : i = n := by omega
    subst hin
    refine codeAny_builtin F.entry_extend_loop ?_
    rw [Around.under_plainId F.plain_extend_loop _]
    show wpAny _ A.in1 (pyNext (.ref M2) >>= _) _ _ s
    exact wpAny_bind (pyNext_bad hh D hst hx fun h₁ h' tk e hs x => hR h₁ h' tk e (fun b o _ hb e' => hs.extBut b o hb e') x)
  | succ k ih =>
    intro i s acc c hk hi hacc hst hS hR
    have hlt : i < n := by omega
    refine codeAny_builtin F.entry_extend_loop ?_
    rw [Around.under_plainId F.plain_extend_loop _]
    show wpAny _ A.in1 (pyNext (.ref M2) >>= _) _ _ s
    obtain ⟨x, t, hx', hn', hl⟩ := hT.get i hlt
    have hlt' : i < ns.length := by rw [hT.len]; exact hlt
    have hm : ns[i]? = some ns[i] := List.getElem?_eq_getElem hlt'
    obtain ⟨f0, f1⟩ := hT.fit _ (List.getElem_mem hlt')
    have hTy : s.TypeIs (.ref M2) "map" := ⟨_, hst.1, rfl⟩
    refine wpAny_bind ?_
    unfold pyNext
    refine wpAny_bind (wpAny_attempt (wpAny_callSpecial?_slot (name := Str.ofString "__next__") hTy slot_map_next (wpAny_call_entry slot_map_next hTy entry_map_next ?_ (args_map_next_1 _))))
    refine next_mm D hst hx' (hn'.trans hm) hl f0 f1 fun h₂ tk₂ u₂ S₂ hs₂ => wpAny_pure ?_
    have hS₂ := hs₂.extBut S _ hSI hS
    show wpAny _ A.in1 (updateSeq S (·.push _) >>= _) _ _ _
    refine wpAny_bind ?_
    refine wpAny_updateSeq hS₂ rfl (wpAny_pure ⟨plainId_quiet F.plain_extend_loop _, ih (i + 1) _ (acc.push _) _ (by omega) hlt (by rw [Array.size_push, hacc]) ?_ (Heap.get?_update_self _ hS₂ rfl) fun h₁ h' tk e hk' x => ?_⟩) (by rw [hacc, sizeLine_eq]; omega) (by show (acc.push _).size ≤ sizeLine + 1; rw [Array.size_push, hacc, sizeLine_eq]; omega)
    · have oth : ∀ b o, b ∈ [M2, T2, M1, T1, I, l] → h₂.get? b = some o → (h₂.update S (Obj.mapSeq (·.push (.str (toString ns[i]) u₂)))).get? b = some o := fun b o hb e => (Heap.get?_update_other _ _ (fun q : S = b => hSf (q ▸ hb))).trans e
      exact ⟨oth _ _ (by simp) S₂.1, oth _ _ (by simp) S₂.2.1, oth _ _ (by simp) S₂.2.2.1, oth _ _ (by simp) S₂.2.2.2.1, S₂.2.2.2.2.1.at fun o e => oth I o (by simp) e, S₂.2.2.2.2.2.at fun o e => oth l o (by simp) e⟩
    · exact hR h₁ h' tk e (fun b o hb hbI e' => hk' b o hb hbI ((Heap.get?_update_other _ _ (Ne.symm hb)).trans (hs₂.extBut b o hbI e'))) x
theorem St.up {M2 T2 M1 T1 I l : Addr} {items : Array Value} {i : Nat} {h h' : Heap} (S : St M2 T2 M1 T1 I l items i h) (hk : ∀ b ∈ [M2, T2, M1, T1, I, l], ∀ o, h.get? b = some o → h'.get? b = some o) : St M2 T2 M1 T1 I l items i h' :=
  ⟨hk _ (by simp) _ S.1, hk _ (by simp) _ S.2.1, hk _ (by simp) _ S.2.2.1, hk _ (by simp) _ S.2.2.2.1, S.2.2.2.2.1.at fun o e => hk I (by simp) o e, S.2.2.2.2.2.at fun o e => hk l (by simp) o e⟩
theorem extend_bad {R : Result → Shared → Prop} (hh : A.handled = none) {M2 T2 M1 T1 I l : Addr} {items : Array Value} {n : Nat} {ns : List Int} {u : Tok} (D : Apart M2 T2 M1 T1 I l) (hT : Told items n ns) (hx : items[n]? = some (.str (Str.ofString "x") u)) (hn : n ≤ 2 ^ 24)
    (S0 : St M2 T2 M1 T1 I l items 0 s.heap) (S : Addr) (res : Value) (c₀ : Nat) (hS : s.heap.get? S = some { cls := .type "list", data := .seq #[] c₀ }) (hSf : S ∉ [M2, T2, M1, T1, I, l])
    (hR : ∀ h₁ h' tk e, (∀ b o, b ≠ S → b ≠ I → s.heap.get? b = some o → h₁.get? b = some o) → Heap.NewExc h₁ h' e "ValueError" → R (.error (.ref e)) { s with heap := h', toks := tk }) :
    wpAny (model prog w) A.in1 (Builtin.List.listExtendWith (.ref S) (.ref M2) res)
      (fun fin s' => match fin with | .done f => R (.ok f) s' | .again c' => c'.quiet = true ∧ codeAny (model prog w) A c' R s') (fun e s' => R (.error e) s') s := by
  have hSM : S ≠ M2 := fun e => hSf (by simp [e])
  have hSI : S ≠ I := fun e => hSf (by simp [e])
  unfold Builtin.List.listExtendWith
  refine wpAny_bind (wpAny_typeOf (T := "map") ⟨_, S0.1, rfl⟩ ?_)
  have h1 : Builtin.List.listSameRef (.ref S) (.ref M2) = false := by simp [Builtin.List.listSameRef, hSM]
  have h2 : (Value.type "map" == Value.type "list") = false := by decide
  have h3 : (Value.type "map" == Value.type "tuple") = false := by decide
  simp only [h1, h2, h3, Bool.or_false, Bool.false_eq_true, if_false]
  refine wpAny_bind (pyIter_map S0.1 ?_)
  refine wpAny_bind (wpAny_holding (hint_map S0.1 ?_))
  refine wpAny_ite_split (fun _ => ?_) (fun hab => absurd rfl hab)
  refine wpAny_bind (wpAny_rule ?_)
  refine wpAny_bind ?_
  show wpAny _ _ (updateSeq S (·.push .none) >>= fun _ => updateSeq S (·.pop)) _ _ _
  refine wpAny_bind (wpAny_updateSeq hS rfl ?_)
  have hS₂ := Heap.get?_update_self (Obj.mapSeq (·.push Value.none)) hS rfl
  refine wpAny_updateSeq (hz := by seq_fits) hS₂ rfl ?_
  have hS₃ := Heap.get?_update_self (Obj.mapSeq (·.pop)) hS₂ rfl
  have oth : ∀ b o, b ≠ S → s.heap.get? b = some o → ((s.heap.update S (Obj.mapSeq (·.push Value.none))).update S (Obj.mapSeq (·.pop))).get? b = some o :=
    fun b o hb e => (Heap.get?_update_other _ _ (Ne.symm hb)).trans ((Heap.get?_update_other _ _ (Ne.symm hb)).trans e)
  refine wpAny_pure ⟨plainId_quiet F.plain_extend_loop _, loop_bad hh D hT hx hn S hSf res n 0 _ #[] _ rfl (Nat.zero_le _) rfl (S0.up fun b hb o e => oth b o (fun q => hSf (q ▸ hb)) e) hS₃ fun h₁ h' tk e hk x => ?_⟩
  exact hR h₁ h' tk e (fun b o hb hbI e' => hk b o hb hbI (oth b o hb e')) x
theorem init_bad {R : Result → Shared → Prop} (hh : A.handled = none) {M2 T2 M1 T1 I l : Addr} {items : Array Value} {n : Nat} {ns : List Int} {u : Tok} (D : Apart M2 T2 M1 T1 I l) (hT : Told items n ns) (hx : items[n]? = some (.str (Str.ofString "x") u)) (hn : n ≤ 2 ^ 24)
    (S0 : St M2 T2 M1 T1 I l items 0 s.heap) (S : Addr) (hS : s.heap.get? S = some { cls := .type "list", data := .seq #[] }) (hSf : S ∉ [M2, T2, M1, T1, I, l])
    (hR : ∀ h₁ h' tk e, (∀ b o, b ≠ S → b ≠ I → s.heap.get? b = some o → h₁.get? b = some o) → Heap.NewExc h₁ h' e "ValueError" → R (.error (.ref e)) { s with heap := h', toks := tk }) :
    wpAny (model prog w) A.in1 (Builtin.«list.__init__» ⟨[.ref S, .ref M2], []⟩)
      (fun fin s' => match fin with | .done f => R (.ok f) s' | .again c' => c'.quiet = true ∧ codeAny (model prog w) A c' R s') (fun e s' => R (.error e) s') s := by
  show wpAny _ _ (do let old ← Builtin.List.listItems (.ref S); Builtin.List.listUpdate (.ref S) (fun _ => #[]); letGo old.toList.reverse; Builtin.List.listExtendWith (.ref S) (.ref M2) .none) _ _ s
  refine wpAny_bind ?_
  unfold Builtin.List.listItems
  refine wpAny_bind (wpAny_seqItems hS rfl (wpAny_pure ?_))
  show wpAny _ _ (updateSeq S (fun _ => #[]) >>= fun _ => letGo (#[] : Array Value).toList.reverse >>= fun _ => Builtin.List.listExtendWith (.ref S) (.ref M2) .none) _ _ s
  refine wpAny_bind (wpAny_updateSeq hS rfl ?_)
  have hS₂ := Heap.get?_update_self (Obj.mapSeq (fun _ => (#[] : Array Value))) hS rfl
  have oth : ∀ b o, b ≠ S → s.heap.get? b = some o → (s.heap.update S (Obj.mapSeq (fun _ => (#[] : Array Value)))).get? b = some o :=
    fun b o hb e => (Heap.get?_update_other _ _ (Ne.symm hb)).trans e
  refine wpAny_bind (wpAny_letGo ?_)
  refine extend_bad hh D hT hx hn (S0.up fun b hb o e => oth b o (fun q => hSf (q ▸ hb)) e) S .none _ hS₂ hSf fun h₁ h' tk e hk x => ?_
  exact hR h₁ h' tk e (fun b o hb hbI e' => hk b o hb hbI (oth b o hb e')) x
/-- list(map(str, map(int, l))), the last text being x -/
theorem call_list_bad {Q : Value → Shared → Prop} (hh : A.handled = none) {M2 T2 M1 T1 I l : Addr} {items : Array Value} {n : Nat} {ns : List Int} {u : Tok} (D : Apart M2 T2 M1 T1 I l) (hT : Told items n ns) (hx : items[n]? = some (.str (Str.ofString "x") u)) (hn : n ≤ 2 ^ 24)
    (S0 : St M2 T2 M1 T1 I l items 0 s.heap)
    (hE : ∀ h₁ h' tk e, (∀ b o, b ≠ I → s.heap.get? b = some o → h₁.get? b = some o) → Heap.NewExc h₁ h' e "ValueError" → E (.ref e) { s with heap := h', toks := tk }) :
    wpAny (model prog w) A (call (.type "list") [.ref M2]) Q E s := by
  refine callType_codes (Q₁ := fun obj s₁ => obj = .ref s.heap.objs.size ∧ s₁ = { s with heap := s.heap.push { cls := .type "list", data := .seq #[] } }) F.called_list (F.typeCall_list_1 _) F.entry_list_init
    (code_list_new _ ⟨rfl, rfl⟩) fun obj s₁ h₁ => ?_
  obtain ⟨rfl, rfl⟩ := h₁
  have hS : (s.heap.push { cls := .type "list", data := .seq #[] }).get? s.heap.objs.size = some { cls := .type "list", data := .seq #[] } := Heap.get?_push_size _ rfl
  have hlt : ∀ b ∈ [M2, T2, M1, T1, I, l], b < s.heap.objs.size := by
    obtain ⟨e1, e2, e3, e4, ⟨o5, e5, _⟩, ⟨o6, e6, _⟩⟩ := S0
    intro b hb
    simp only [List.mem_cons, List.not_mem_nil, or_false] at hb
    rcases hb with rfl | rfl | rfl | rfl | rfl | rfl
    · exact Heap.lt_size e1
    · exact Heap.lt_size e2
    · exact Heap.lt_size e3
    · exact Heap.lt_size e4
    · exact Heap.lt_size e5
    · exact Heap.lt_size e6
  refine ⟨⟨_, hS, rfl⟩, F.args_list_init_2 _ _, init_bad (A := A.in1) hh D hT hx hn (S0.up fun b hb o e => Heap.get?_push_of_some _ e) _ hS (fun hm => Nat.lt_irrefl _ (hlt _ hm)) fun h₁ h' tk e hk x => ?_⟩
  exact hE h₁ h' tk e (fun b o hb e' => hk b o (Nat.ne_of_lt (Heap.lt_size e')) hb (Heap.get?_push_of_some _ e')) x
theorem listBad_K {h₀ : Heap} {L : Addr} {m : Str → Option Value} {news : List (Addr × Obj)} {Q : Value → Shared → Prop} {b a l : Nat} {items : Array Value} {n : Nat} {ns : List Int} {u : Tok} (hh : A.handled = none) (F : Fr h₀ L s.heap m) (N : News h₀ L s.heap (mmNews b a l news)) (hl : s.heap.IsList l items) (hT : Told items n ns)
    (hx : items[n]? = some (.str (Str.ofString "x") u)) (hn : n ≤ 2 ^ 24) (hb : a + 2 < b) (hla : l < a) (hna : ∀ p ∈ news, p.1 < a)
    (h : ∀ h₁ h' tk e, Fr h₀ L h₁ m → News h₀ L h₁ news → Heap.NewExc h₁ h' e "ValueError" → E (.ref e) { s with heap := h', toks := tk }) :
    wpAny (model prog w) A (call (.type "list") [.ref (b + 1)]) Q E s := by
  refine call_list_bad hh (mm_apart hb hla) hT hx hn (mm_st N hl) fun h₁ h' tk e hk x => ?_
  have hI := N (a, iterO l) (.tail _ (.tail _ (.tail _ (.tail _ (.head _)))))
  have hLI : L ≠ a := Ne.symm hI.2.1
  have F' : Fr h₀ L h₁ m := ⟨F.ns.at' fun o e => hk L o hLI e, fun c o e => hk c o (fun q => by rw [q, hI.2.2] at e; cases e) (F.keep c o e), F.above⟩
  have N' : News h₀ L h₁ news := fun p hp => by
    have z := N p (.tail _ (.tail _ (.tail _ (.tail _ (.tail _ hp)))))
    exact ⟨hk _ _ (Nat.ne_of_lt (hna p hp)) z.1, z.2⟩
  exact h h₁ h' tk e F' N' x
end
end MapIt
end Mine

end
local macro_rules | `(tactic| walk_at "none here") => `(tactic| skip)
theorem Join.rstbv : True := by
  w_top off
  trivial
section
open PySem PySem.W PyProof.Rows PySem.Calls PySem.Spec
set_option maxRecDepth 100000
set_option maxHeartbeats 8000000
namespace Mine
local macro_rules | `(tactic| k_all) => `(tactic| exact ne_of_all_lt (by assumption))
/-- a def entered whose own try may hold what it raises: its caller's frame lies in the ledger -/
theorem code_defT {prog : Program} {w : World} {A : Around} {s : Shared} {h₀ : Heap} {L : Addr} {m : Str → Option Value} {env : Env} {news : List (Addr × Obj)} {K : Frag} {p : Program} {loose : List Str} {mean : ExcName → Option Value} {mg mb : Str → Option Value}
    {R : Result → Shared → Prop} {name qual : Str} {params : Arguments} {body : List Stmt} {scope : Scope} {dV kV doc pm cdv ct oc : Value} {an od : Option Addr} {osl : Array (Option Value)} {f : Addr} {args : Args} {binds : List (Str × Value)}
    (F : Fr h₀ L s.heap m) (X₀ : K.In h₀) (N : News h₀ L s.heap news) (T : Top p loose mean mg mb h₀) (_hA : A.frames = some [env]) (hf : env.frame = some L) (hke : env.scope.kind = .function)
    (ho : K.lookup f = some ⟨oc, od, .func (fnOf name qual params body scope dV kV doc pm an cdv ct), osl⟩) (hcd : codeIn K cdv qual = true) (hroom : A.depth < recursionLimit)
    (hbind : BindsTo s (fnOf name qual params body scope dV kV doc pm an cdv ct) args binds) (hloc : ∀ y ∈ binds, scope.names.lookup y.1 = some .local)
    (h : ∀ oL h₁, TI.Caller h₀ L m oL → TI.Frs [env] [(L, oL)] → (∀ p ∈ news, p.1 ≠ L) → Fr h₀ s.heap.objs.size h₁ (fun y => binds.reverse.lookup y) → News h₀ s.heap.objs.size h₁ (news ++ [(L, oL)]) →
      wpAny (model prog w) (A.deeper (envOf qual scope s.heap.objs.size f cdv)) (execs body (envOf qual scope s.heap.objs.size f cdv))
        (fun fl s' => TI.LeaveI s' (R (.ok (.ret (match fl with | .ret v => v | _ => .none))) s'))
        (fun e s' => wpAny (model prog w) (A.deeper (envOf qual scope s.heap.objs.size f cdv)) (leaving (envOf qual scope s.heap.objs.size f cdv) e) (fun _ s'' => TI.LeaveX (R (.error e) s'')) (fun e' s'' => TI.LeaveX (R (.error e') s'')) s')
        { s with heap := h₁, toks := s.toks + binds.length })
    (hco : scope.isCoroutine = false) (hgen : scope.isGenerator = false) (hk : scope.kind = .function)
    (hcell : ∀ x ∈ scope.names, x.2 ≠ .cell) : codeAny (model prog w) A (.call (.ref f) args) R s := by
  have X := X₀.keeps F.keep
  obtain ⟨oL, es, ep, hL, hLd, hLk, hLf⟩ := F.ns
  have hLt := Heap.lt_size hL
  have hkind : env.scope.kind ≠ .module := by rw [hke]; decide
  refine codeAny_call_def (fd := fnOf name qual params body scope dV kV doc pm an cdv ct) (body := body) (binds := binds) hroom (X _ _ ho) rfl (T.nolimit.keeps F.keep) (codeRec_of X hcd) rfl hbind hcell hloc (fun h₁ hns hk₁ => ?_) hco hgen hk
  have up : ∀ b o, s.heap.get? b = some o → h₁.get? b = some o := fun b o e => hk₁ b o e
  refine wpAny_mono (h oL h₁ ⟨fun h' sl e => ⟨_, es, ep, e, hLd, hLk, hLf⟩, ⟨es, ep, hLd⟩, F.above⟩ ⟨hkind, hf, ⟨es, ep, hLd⟩, trivial⟩ (fun p hp => (N p hp).2.1)
    ⟨hns, fun b o e => up b o (F.keep b o e), Nat.le_trans F.above (Nat.le_of_lt hLt)⟩ (fun p hp => ?_)) (fun _ _ x => x) fun _ _ x => wpAny_mono x (fun _ _ y => y) fun _ _ y => y
  rcases List.mem_append.mp hp with hp | hp
  · obtain ⟨h1, h2, h3⟩ := N p hp
    exact ⟨up _ _ h1, Nat.ne_of_lt (Heap.lt_size h1), h3⟩
  · rcases List.mem_cons.mp hp with rfl | hp
    · exact ⟨up _ _ hL, Nat.ne_of_lt hLt, Heap.get?_none_of_le F.above⟩
    · exact nomatch hp
theorem sum_len_le : ∀ (ts : List Str) (k : Nat), (∀ t ∈ ts, t.length ≤ k) → (ts.map (·.length)).sum ≤ k * ts.length
  | [], _, _ => by simp
  | t :: ts, k, h => by
    have h1 := h t (.head _)
    have h2 := sum_len_le ts k fun x hx => h x (.tail _ hx)
    simp only [List.map_cons, List.sum_cons, List.length_cons, Nat.mul_add]
    omega
theorem told_more {vs : List Value} {v : Value} {n : Nat} {ns : List Int} (h : MapIt.Told vs.toArray n ns) : MapIt.Told (vs ++ [v]).toArray n ns := by
  refine ⟨h.len, fun i hi => ?_, h.fit⟩
  obtain ⟨x, t, e, r⟩ := h.get i hi
  refine ⟨x, t, ?_, r⟩
  rw [List.getElem?_toArray] at e ⊢
  rw [List.getElem?_append_left (List.getElem?_eq_some_iff.mp e).1, e]
/-- the contract's form for a caller that stands alone -/
noncomputable def Ctr1 (w : World) (f : Addr) (vs : List Value) (news : List (Addr × Obj)) (P : Value → List (Addr × Obj) → Prop) : Prop :=
  ∀ (p : Program) (mean : ExcName → Option Value) (mg mb : Str → Option Value)
    (dp un : Nat) (gd : Option (List Code)) (cn : Str) (cs : Scope) (a : Addr) (ccd : Value) (cl : List (Str × Addr)) (h₀ : Heap) (L : Addr) (m : Str → Option Value) (s : Shared) (Q E : Value → Shared → Prop),
    Fr h₀ L s.heap m → (hd.heap_39 w.params).In h₀ → News h₀ L s.heap news → Top hd.view_39 (looseW hd.view_39 [Str.ofString "_norm_version"]) mean mg mb h₀ → cs.kind = .function →
    dp + 3 < recursionLimit → un + 20 < cLine →
    (∀ (v : Value) (h' : Heap) (tk' : Nat) (own : List (Addr × Obj)), P v own → Fr h₀ L h' m → News h₀ L h' (own ++ news) → Q v { s with heap := h', toks := tk' }) →
      wpAny (model PySem.Challenge.rw_pk0009_01.row.prog w) (ktrTop dp un gd cn cs L a ccd cl []) (call (.ref f) vs) Q E s
theorem normx_ctr (w : World) (v : Str) (t t' : Tok) (ns : List Int) (news : List (Addr × Obj)) (hv : v.length ≤ 100)
    (hT : Texts (Txt.split v (Str.ofString ".")) ns) (hn : ns.length = 3) :
    Ctr1 w 22 [.str v t, .str (Str.ofString "x") t'] news (fun r own => ∃ t2, r = .str (Txt.join (Str.ofString ".") (Txt.split v (Str.ofString "."))) t2 ∧ own = []) := by
  unfold Ctr1
  k_fill
  intro p mean mg mb dp un gd cn cs a ccd cl h₀ L m s Q E F X N T hk hdp hun hret
  refine wpAny_call ?_
  k_dflt (refine' code_defT ?k2 ?k3 ?k4 ?k5 ?kA ?kF ?kK ?k6 ?k7 ?k8 ?k9 ?kB ?_ ?c2 ?c3 ?c4 ?c5; (case kA => exact rfl); (case kF => exact rfl); (case kK => assumption); (case k2 => k_asm); (case k3 => k_asm); (case k4 => k_asm); (case k5 => k_asm); (case k6 => k_is); (case k7 => k_is); (case k8 => ktr_room); (case k9 => exact binds_K (by k_in) rfl (by k_is) rfl rfl rfl); (case c5 => decide); (case kB => exact locs rfl); (case c2 => exact rfl); (case c3 => exact rfl); (case c4 => exact rfl); k_whole; intro oL h' tiC tiF tiE F' N'; (try dsimp only); (try k_fold))
  have hnw : ∀ p ∈ news ++ [(L, oL)], p.1 < h'.objs.size := fun p hp => Heap.lt_size (N' p hp).1
  k_steps
  (k_dflt (refine' MapIt.mapL_K ?k1 ?k2 ?k3 ?_; (case k1 => k_asm); (case k2 => k_asm); (case k3 => exact News.isList (by k_asm) (by k_mem)); k_whole))
  intro a1 h1 F1 N1 l1 l1L l1l
  k_steps
  (k_dflt (refine' MapIt.mapM_K ?k1 ?k2 ?k3 ?_; (case k1 => k_asm); (case k2 => k_asm); (case k3 => exact News.get (by k_asm) (by k_mem)); k_whole))
  intro a2 h2 F2 N2 l2 l2L
  k_steps
  rename List (Str × Tok) => ls
  rename (ls.map _ = _) => hsp
  rename (StrsAre _ _) => hst
  have hT' : Texts (ls.map (·.1)) ns := by rw [hsp]; exact hT
  have hS' : StrsAre ((strValues ls) ++ [Value.str (Str.ofString "x") t']) (ls.map (·.1) ++ [Str.ofString "x"]) := strs_snoc hst
  have hlen : (ls.map (·.1)).length = 3 := by rw [hT'.length, hn]
  have hsz : (strValues ls).length = 3 := by rw [hst.length, hlen]
  refine MapIt.listBad_K (ns := ns) (n := 3) (u := t') (items := ((strValues ls) ++ [Value.str (Str.ofString "x") t']).toArray) rfl F2 N2 ?_ ?_ ?_ (by decide) (l2 _ (.head _)) (l1 _ (.head _)) l1 ?_
  · have := News.isList N2 (.tail _ (.tail _ (.tail _ (.tail _ (.tail _ (.head _))))))
    simpa using this
  · exact told_more (hlen ▸ hT'.told hst)
  · rw [List.getElem?_toArray, List.getElem?_append_right (by omega), hsz]; rfl
  intro h3 h4 tk4 e4 F3 N3 x4
  have hAN : TLg.AllNe L ((h'.objs.size, W.listOf ((strValues ls).toArray.push (Value.str (Str.ofString "x") t')) (0 + 1)) :: news) := TLgL.allNe_of (fun p hp => by
    rcases List.mem_cons.mp hp with rfl | hp
    · exact Nat.ne_of_gt (hnw (L, oL) (List.mem_append_right _ (.head _)))
    · exact tiE p hp)
  refine TLg.noted_new1 (new := (h'.objs.size, W.listOf ((strValues ls).toArray.push (Value.str (Str.ofString "x") t')) (0 + 1)) :: news) rfl tiF x4 F3 N3 hAN ?_
  intro h5 sl5 Fs5 H5
  have H5' := TT.HeldNA.held H5
  clear hsz
  k_steps
  (k_dflt (refine' kmk_slice ?xF ?xN ?xl ?xp ?xq ?_ ?xs ?xt ?xz; (case xF => k_asm); (case xN => k_asm); (case xl => kmk_list); (case xp => kmk_part); (case xq => kmk_part); (case xs => with_unfolding_all rfl); (case xt => kmk_pure); (case xz => (rw [Array.size_push, List.size_toArray, hst.length, hlen]; decide))))
  intro D6 h6 F6 N6 l6
  have hsz : (strValues ls).length = 3 := by rw [hst.length, hlen]
  have e6 : (strValues ls).toArray.push (Value.str (Str.ofString "x") t') = ((strValues ls) ++ [Value.str (Str.ofString "x") t']).toArray := by simp
  rw [e6, pick3, List.take_append_of_le_length (by omega), List.take_of_length_le (by omega)] at N6
  clear hsz
  k_steps
  refine join_listW (ys := ls.map (·.1)) (News.isList N6 (.head _)) hst (by decide +kernel) ?_ ?_
  · have := sum_len_le (ls.map (·.1)) 640 hT'.len
    rw [hlen] at this ⊢
    omega
  intro t7 k7
  k_steps
  rename (News _ _ _ ((D6, _) :: _)) => N8
  refine TLg.leave_back (new := (D6, W.listOf (strValues ls).toArray 0) :: (h'.objs.size, W.listOf (strValues ls ++ [Value.str (Str.ofString "x") t']).toArray (0 + 1)) :: news) tiC (by assumption) N8 (TLgL.allNe_of fun p hp => ?_) fun F9 N9 => ?_
  · rcases List.mem_cons.mp hp with rfl | hp
    · exact Nat.ne_of_gt (l6 (L, { oL with slots := sl5 }) (.tail _ (List.mem_append_right _ (.head _))))
    · rcases List.mem_cons.mp hp with rfl | hp
      · exact Nat.ne_of_gt (hnw (L, oL) (List.mem_append_right _ (.head _)))
      · exact tiE p hp
  · rw [hsp]
    exact hret _ _ _ [] ⟨_, rfl, rfl⟩ F9 (cb_drop N9 (fun p hp => .tail _ (.tail _ hp)))
end Mine

end
section
open PySem PySem.W PyProof.Rows PySem.Calls
set_option maxRecDepth 100000
namespace Mine
section
variable {prog : Program} {w : World} {A : Around} {s : Shared} {R : Result → Shared → Prop}
/-- the law's own def entered, with cells -/
theorem call_cellsC {name : Str} {params : Arguments} {body : List Stmt} {scope : Scope}
    {pm cd doc : Value} {a : Addr} {o : Obj} {args : List Value} {binds : List (Str × Value)}
    (hroom : A.depth < recursionLimit) (ho : s.heap.get? a = some o) (hdata : o.data = .func (Calls.docDef name params body scope pm cd doc)) (hlim : s.heap.NoLimit) (hcd : s.heap.CodeRec cd name)
    (hbind : bindArgs (Calls.docDef name params body scope pm cd doc) ⟨args, []⟩ = pure binds)
    (hkind : ∀ x ∈ binds, scope.names.lookup x.1 = some .local ∨ (scope.names.lookup x.1 = some .cell ∧ ((cellsFrom (s.heap.objs.size + 1) scope.names []).lookup x.1).isSome = true))
    (hnd : ((cellsFrom 0 scope.names []).map (·.1)).Nodup)
    (h : ∀ h₁ tk cells, Fr s.heap s.heap.objs.size h₁ (bindL (envOfC name scope s.heap.objs.size a cd).kindOf binds fun _ => none) → News s.heap s.heap.objs.size h₁ cells →
      CellsAre (bindC (envOfC name scope s.heap.objs.size a cd).kindOf binds fun _ => none) (cellsFrom (s.heap.objs.size + 1) scope.names []) cells →
      wpC (model prog w) (A.deeper (envOfC name scope s.heap.objs.size a cd)) (execs body (envOfC name scope s.heap.objs.size a cd))
        (fun f s' => R (.ok (.ret (match f with | .ret v => v | _ => .none))) s') (fun _ _ => False) { s with heap := h₁, toks := tk })
    (hco : scope.isCoroutine = false) (hgen : scope.isGenerator = false) (hk : scope.kind = .function) :
    codeC (model prog w) A (.call (.ref a) ⟨args, []⟩) R s := by
  refine codeC_call_function (fd := Calls.docDef name params body scope pm cd doc) (body := body) hroom ho hdata hco hgen rfl hcd ?_
  rw [hbind]
  refine wpAny_pure (wpAny_newFunctionEnv_cells hk hkind fun env he s' x => ?_)
  subst he
  refine ⟨hlim.keeps x.toInCall.keep, codeC_func ?_⟩
  obtain ⟨h₁, tk, rfl, _⟩ := x.done
  obtain ⟨cells, N, Y⟩ := Cl.news (h₀ := s.heap) (Nat.le_refl _) fun n c hm => ⟨x.cell n c (lookup_of_mem_nodup (cellsFrom_names scope.names 0 (s.heap.objs.size + 1) [] [] rfl ▸ hnd) hm), x.above n c hm⟩
  exact wpC_mono (h h₁ tk cells ⟨x.toInCall.ns, x.toInCall.keep, x.toInCall.fresh⟩ N Y) (fun fl s' hl => hl) fun _ _ y => y.elim
end
end Mine

end
section
open PySem PySem.W PyProof.Rows PySem.Calls PySem.Spec
open PyProof.Rows.LCg
set_option maxRecDepth 100000
namespace Mine
noncomputable abbrev bodyOf {q : Program} {loose : List Str} {XP : (Str → Option Value) → Heap → Prop} {YP : World → Heap → Prop} {r : RowW} {d : DefRec} {kwd : List (Str × Expr)} {run : Value → List Value → Sem Value} {P : Prop} (_ : WalkC q loose XP YP r d kwd run → P) : List Stmt := d.body
noncomputable abbrev scopeOf {q : Program} {loose : List Str} {XP : (Str → Option Value) → Heap → Prop} {YP : World → Heap → Prop} {r : RowW} {d : DefRec} {kwd : List (Str × Expr)} {run : Value → List Value → Sem Value} {P : Prop} (_ : WalkC q loose XP YP r d kwd run → P) : Scope := d.scope
noncomputable def lawBody : List Stmt := bodyOf hd
noncomputable def lawScope : Scope := scopeOf hd
noncomputable def lawSt (i : Nat) : Stmt := lawBody.getD i (.Pass default)
noncomputable abbrev lawEnv (L a : Addr) (cd : Value) : Env := envOfC (Str.ofString "law") lawScope L a cd
noncomputable abbrev lawA (L a : Addr) (cd : Value) : Around := callerA.deeper (lawEnv L a cd)
noncomputable abbrev lawM (w : World) : Model := model PySem.Challenge.rw_pk0009_01.row.prog w
end Mine

end
section
open PySem PySem.W PyProof.Rows PySem.Calls PySem.Spec
open PyProof.Rows.LCg
set_option maxRecDepth 100000
namespace Mine
section
variable {prog : Program} {w : World} {A : Around} {s : Shared} {R : Result → Shared → Prop}
/-- a def with cells entered, off the path -/
theorem code_defA {A₀ : Around} {base h₀ : Heap} {L : Addr} {m : Str → Option Value} {news : List (Addr × Obj)} {K : Frag} {p : Program} {loose : List Str} {mean : ExcName → Option Value} {mg mb : Str → Option Value}
    {env : Env} {outer : List Env} {name qual : Str} {params : Arguments} {body : List Stmt} {scope : Scope} {dV kV doc pm cdv ct oc : Value} {an od : Option Addr} {osl : Array (Option Value)} {f : Addr} {args : Args} {binds : List (Str × Value)}
    (B : Below A₀ base outer h₀) (F : Fr h₀ L s.heap m) (X₀ : K.In h₀) (N : News h₀ L s.heap news) (T : Top p loose mean mg mb h₀) (hA : A.frames = some (env :: outer)) (hf : env.frame = some L) (hke : env.scope.kind = .function)
    (ho : K.lookup f = some ⟨oc, od, .func (fnOf name qual params body scope dV kV doc pm an cdv ct), osl⟩) (hcd : codeIn K cdv qual = true) (hroom : A.depth < recursionLimit)
    (hbind : BindsTo s (fnOf name qual params body scope dV kV doc pm an cdv ct) args binds) (hkind : (binds.all fun y => scope.names.lookup y.1 == some .local || scope.names.lookup y.1 == some .cell) = true)
    (hnd : ((cellsFrom 0 scope.names []).map (·.1)).Nodup)
    (h : ∀ g L' h₁ tk cells, Fr h₀ L g m → Fr g L' h₁ (bindL (envOfC qual scope L' f cdv).kindOf binds fun _ => none) → News g L' h₁ (cells ++ news) →
      CellsAre (bindC (envOfC qual scope L' f cdv).kindOf binds fun _ => none) (cellsFrom (L' + 1) scope.names []) cells → Below A base (env :: outer) g → K.In g → Top p loose mean mg mb g → (∀ p ∈ news, p.1 < L') → (∀ b o, h₀.get? b = some o → g.get? b = some o) →
      wpAny (model prog w) (A.deeper (envOfC qual scope L' f cdv)) (execs body (envOfC qual scope L' f cdv))
        (fun fl s' => LeaveK h₀ L m g R (match fl with | .ret v => v | _ => .none) s') (fun _ _ => False)
        { s with heap := h₁, toks := tk })
    (hco : scope.isCoroutine = false) (hgen : scope.isGenerator = false) (hk : scope.kind = .function) : codeAny (model prog w) A (.call (.ref f) args) R s := by
  have hkind := kindsX hkind
  have ho' := (X₀.keeps F.keep) _ _ ho
  refine callX_cells (R := R) B F N T.nolimit hA hf hke ho' rfl (codeRec_of (X₀.keeps F.keep) hcd) hroom hbind hkind hnd ?_ hco hgen hk
  intro g L' h₁ tk cells FG F' N' Y BG st l1
  exact wpAny_mono (h g L' h₁ tk cells FG F' N' Y BG (X₀.keeps st) (T.keeps st) l1 st) (fun _ _ x => x) fun _ _ x => x.elim
end
theorem CompRest.ind {prog : Program} {w : World} {A : Around} {s : Shared} {h₀ : Heap} {L : Addr} {m : Str → Option Value} {env : Env} {elt : Expr} {x : Str} {scope : Scope} {cl : List (Str × Addr)} {S : List (Addr × Obj) → Prop} {V : Nat → Value → Prop} {Fin : List Value → List (Addr × Obj) → Prop}
    (n : Nat) (P : Nat → List Value → List (Addr × Obj) → Prop) (zero : ∀ ys news, P n ys news → Fin ys news)
    (succ : ∀ i ys news, i < n → P i ys news → ∀ v I oI C oC D m₂ h tk (E' : Value → Shared → Prop), V i v → NsObj oC m₂ → m₂ x = some v → Fr h₀ L h m → News h₀ L h ((I, oI) :: (C, oC) :: (D, lst ys) :: news) → Off3 I C D news → ((@Ne Nat I C) ∧ (@Ne Nat I D) ∧ (@Ne Nat C D)) →
      wpAny (model prog w) A (eval elt (compEnvC scope cl C env)) (fun y s₂ => Halt (CompEnd h₀ L m { s with heap := h, toks := tk } I oI C oC D (lst ys) S (fun y news' => P (i + 1) (ys ++ [y]) news') y s₂)) E' { s with heap := h, toks := tk }) :
    ∀ k i ys news, k + i = n → P i ys news → CompRest prog w A h₀ L m env elt x scope cl s S V Fin k i ys news
  | 0, i, ys, news, e, h => zero ys news (by rw [Nat.zero_add] at e; exact e ▸ h)
  | k + 1, i, ys, news, e, h => by
    refine LCg.CompRest.succ ?_
    intro v I oI C oC D m₂ h' tk E' a1 a2 a3 a4 a5 a6 a7
    refine wpAny_mono (succ i ys news (by omega) h v I oI C oC D m₂ h' tk E' a1 a2 a3 a4 a5 a6 a7) (fun y s₂ hq => ?_) fun _ _ x => x
    obtain ⟨h2, tk2, news2, b1, b2, b3, b4, b5, b6⟩ := hq
    exact ⟨h2, tk2, news2, b1, b2, b3, b4, b5, CompRest.ind n P zero succ k (i + 1) _ _ (by omega) b6⟩
theorem ints_of : ∀ (vs : List Value), (∀ v ∈ vs, ∃ n t, v = .int n t) → ∃ ns, IntsAre vs ns
  | [], _ => ⟨[], .nil⟩
  | v :: r, h => by
    obtain ⟨n, t, rfl⟩ := h v (.head _)
    obtain ⟨ns, hr⟩ := ints_of r fun v hv => h v (.tail _ hv)
    exact ⟨n :: ns, .cons _ _ hr⟩
theorem slice_ints {vs : List Value} {ns : List Int} (h : IntsAre vs ns) (lo hi st : Option Int) : ∃ ws ms, slicePick vs.toArray lo hi st = List.toArray ws ∧ IntsAre ws ms := by
  obtain ⟨ms, hm⟩ := ints_of (slicePick vs.toArray lo hi st).toList fun v hv => by
    unfold slicePick at hv
    rw [List.toList_toArray] at hv
    obtain ⟨i, _, e⟩ := List.mem_filterMap.mp hv
    have e' : vs[i]? = some v := by simpa using e
    obtain ⟨n, t, rfl, _⟩ := h.at i v e'
    exact ⟨n, t, rfl⟩
  exact ⟨_, ms, (Array.toArray_toList (xs := slicePick vs.toArray lo hi st)).symm, hm⟩
end Mine

end
local macro_rules | `(tactic| walk_at "none here") => `(tactic| skip)
theorem Join.rstbz : True := by
  w_top off
  trivial
section
open PySem PySem.W PyProof.Rows PySem.Calls PySem.Spec
open PyProof.Rows.LCg
set_option maxRecDepth 100000
set_option maxHeartbeats 80000000
namespace Mine
local macro_rules | `(tactic| k_all) => `(tactic| exact ne_of_all_lt (by assumption))
/-- behind the first statement: the list of the four starts stands in its cell -/
inductive DBase (g' : Heap) (L' : Addr) (s : Shared) (oS : Obj) (news : List (Addr × Obj)) (s' : Shared) : Prop
  | mk (h2 : Heap) (tk2 : Nat) (aB : Addr) (o2 : Obj) (u0 u1 u2 u3 : Tok) : s' = { s with heap := h2, toks := tk2 } → Fr g' L' h2 (fun _ => none) → News g' L' h2 ((aB, W.listOf #[.int 4480 u0, .int 14422 u1, .int 5476 u2, .int 27958 u3] 0) :: (L' + 1 + 1, o2) :: (L' + 1, oS) :: news) →
    o2.data = .cell (some (.ref aB)) → DBase g' L' s oS news s'
/-- the range is at hand -/
inductive DRange (g' : Heap) (L' : Addr) (s : Shared) (led : List (Addr × Obj)) (v : Value) (s' : Shared) : Prop
  | mk (h3 : Heap) (tk3 : Nat) (r : Addr) (t u v0 : Tok) : v = .ref r → s' = { s with heap := h3, toks := tk3 } → IsRange h3 r 0 4 1 t u v0 → Fr g' L' h3 (fun _ => none) → News g' L' h3 led → DRange g' L' s led v s'
theorem draws_ctr (w : World) (aS : Addr) (vals : List Value) (script : List Int) (hI : IntsAre vals script) (hlen : script.length ≤ 63) (news : List (Addr × Obj)) :
  ∀ (p : Program) (loose : List Str) (mean : ExcName → Option Value) (mg mb : Str → Option Value)
    (dp un : Nat) (gd : Option (List Code)) (cn : Str) (cs : Scope) (a : Addr) (ccd : Value) (cl : List (Str × Addr)) (outer : List Env) (A₀ : Around) (base h₀ : Heap) (L : Addr) (m : Str → Option Value) (s : Shared) (Q E : Value → Shared → Prop),
    h₀.IsList aS vals.toArray → Below A₀ base outer h₀ → Fr h₀ L s.heap m → (hd.heap_39 w.params).In h₀ → News h₀ L s.heap news → Top p loose mean mg mb h₀ → cs.kind = .function →
    dp + 10 < recursionLimit → un + 60 < cLine →
    (∀ (v : Value) (h' : Heap) (tk' : Nat) (D : Addr) (d0 d1 d2 d3 : Int) (t0 t1 t2 t3 : Tok) (c : Nat), v = .ref D → (0 ≤ d0 ∧ d0 < 28656) → (0 ≤ d1 ∧ d1 < 28656) → (0 ≤ d2 ∧ d2 < 28656) → (0 ≤ d3 ∧ d3 < 28656) → Fr h₀ L h' m → News h₀ L h' ((D, listO #[.int d0 t0, .int d1 t1, .int d2 t2, .int d3 t3] c) :: news) → Q v { s with heap := h', toks := tk' }) →
      wpAny (model PySem.Challenge.rw_pk0009_01.row.prog w) (ktrTop dp un gd cn cs L a ccd cl outer) (call (.ref 34) [.ref aS]) Q E s := by
  k_fill
  intro p loose mean mg mb dp un gd cn cs a ccd cl outer A₀ base h₀ L m s Q E hl B F X N T hk hdp hun hret
  refine wpAny_call ?_
  k_dflt (refine' code_defA (binds := [(Str.ofString "script", .ref aS)]) ?k1 ?k2 ?k3 ?k4 ?k5 ?kA ?kF ?kK ?k6 ?k7 ?k8 ?k9 ?kB ?kD ?_ ?c2 ?c3 ?c4; (case kA => exact rfl); (case kF => exact rfl); (case kK => assumption); (case k1 => k_asm); (case k2 => k_asm); (case k3 => k_asm); (case k4 => k_asm); (case k5 => k_asm); (case k6 => k_is); (case k7 => k_is); (case k8 => ktr_room); (case k9 => exact BindsTo.of_eq rfl); (case kB => exact rfl); (case kD => decide +kernel); (case c2 => exact rfl); (case c3 => exact rfl); (case c4 => exact rfl); k_whole; intro g' L' h' tk' cells' FG' F' N' Y' B' X' T' l1 st'; k_cells Y'; (try simp only [List.cons_append, List.nil_append] at N'); (try dsimp only); (try k_lift B'))
  have hl' : g'.IsList aS vals.toArray := hl.at (st' aS)
  have l2 : ∀ p ∈ news, p.1 < L' + 1 + 1 := fun p hp => Nat.lt_succ_of_lt (Nat.lt_succ_of_lt (l1 p hp))
  have l3 : ∀ p ∈ news, p.1 < L' + 1 := fun p hp => Nat.lt_succ_of_lt (l1 p hp)
  rename_i oB oS dB dS
  have F0 : Fr g' L' h' (fun _ => none) := Fr_eq F' (fun y => rfl)
  have dS' : oS.data = .cell (some (.ref aS)) := dS
  have dB' : oB.data = .cell none := dB
  clear F' dS dB
  refine cutQ (DBase g' L' { s with heap := h', toks := tk' } oS news) (fun Q' hQ' => ?_) ?_
  · k_steps
    dsimp only
    exact hQ' _ ⟨_, _, _, _, _, _, _, _, rfl, by assumption, by assumption, by assumption⟩
  rintro s' ⟨h2, tk2, aB, oB2, u0, u1, u2, u3, rfl, F2, N2, dB2⟩
  clear F0 N'
  have hnw2 := news_lt N2
  refine wpAny_execs_cons (wpAny_Return_some ?_)
  refine LCg.ListComp_U (F₀ := F2) (by rfl) (by decide) (by rfl) (by decide) (by rfl) ?_
  refine mid (DRange g' L' { s with heap := h2, toks := tk2 } ((aB, W.listOf #[.int 4480 u0, .int 14422 u1, .int 5476 u2, .int 27958 u3] 0) :: (L' + 1 + 1, oB2) :: (L' + 1, oS) :: news)) (fun Q' hQ' => ?_) ?_
  · k_steps
    dsimp only
    exact hQ' _ _ ⟨_, _, _, _, _, _, rfl, rfl, by assumption, by assumption, by assumption⟩
  rintro v s' ⟨h3, tk3, r, t, u, v0, rfl, rfl, hR, F3, N3⟩
  refine LCg.CompSrc.range (n := 4) rfl F3 N3 hR (by decide) (by decide) (Nat.le_of_ble_eq_true rfl) ?_
  intro g4
  refine CompRest.ind 4 (fun i ys nw => ys.length = i ∧ (∀ y ∈ ys, ∃ d t, y = .int d t ∧ 0 ≤ d ∧ d < 28656) ∧ nw = (aB, W.listOf #[.int 4480 u0, .int 14422 u1, .int 5476 u2, .int 27958 u3] 0) :: (L' + 1 + 1, oB2) :: (L' + 1, oS) :: news) ?_ ?_ 4 0 _ _ rfl ⟨rfl, List.forall_mem_nil _, rfl⟩
  · rintro ys nw ⟨e1, e2, rfl⟩
    intro D h5 tk5 F5 N5 off5
    dsimp only
    obtain ⟨y0, y1, y2, y3, rfl⟩ := list4 e1
    obtain ⟨d0, t0, rfl, q0⟩ := e2 _ (.head _)
    obtain ⟨d1, t1, rfl, q1⟩ := e2 _ (.tail _ (.head _))
    obtain ⟨d2, t2, rfl, q2⟩ := e2 _ (.tail _ (.tail _ (.head _)))
    obtain ⟨d3, t3, rfl, q3⟩ := e2 _ (.tail _ (.tail _ (.tail _ (.head _))))
    clear F3 N3
    k_steps
    rename (News h₀ L h5 _) => N6
    exact hret _ _ _ D d0 d1 d2 d3 t0 t1 t2 t3 _ rfl q0 q1 q2 q3 (by assumption) (cb_drop N6 (fun p hp => by
      rcases List.mem_cons.mp hp with rfl | hp
      · exact .head _
      · exact .tail _ (.tail _ (.tail _ (.tail _ hp)))))
  rintro i ys nw hi ⟨e1, e2, rfl⟩ v I oI C oC D m₂ h5 tk5 E' ⟨t5, rfl⟩ hNs hm F5 N5 off5 ne5
  clear F2 N2 F3 N3 hnw2
  have hnw5 := news_lt N5
  have off5' := off5
  simp only [LCg.Off3] at off5
  refine hide fun Qt hQt => ?_
  k_steps
  rename_i t9 h9 F9 N9
  obtain ⟨ws, ms, e9, hm9⟩ := slice_ints hI (some (0 + (i : Int))) (some 60) (some 4)
  have hms : ms.length ≤ 63 := by
    have q := slicePick_size_le vals.toArray (some (0 + (i : Int))) (some 60) (some 4)
    rw [e9, List.size_toArray, List.size_toArray, hm9.length, hI.length] at q
    omega
  rw [e9] at N9
  k_steps
  rename (CarriedAll _ _) => c13
  rename (Heap.IsList _ _ _) => l13
  rename (News g' L' _ _) => N13
  rename (Fr g' L' _ _) => F13
  refine sumK rfl F13 N13 l13 c13.intsOf ?_
  intro h14 tk14 t14 F14 N14
  k_steps
  refine hQt _ _ ?_
  refine ⟨h14, _, _, rfl, F14, fun p hp => N14 p (.tail _ hp), off5', trivial, by rw [List.length_append, e1]; rfl, fun y hy => ?_, rfl⟩
  rcases List.mem_append.mp hy with hy | hy
  · exact e2 y hy
  · rw [List.mem_singleton.mp hy]
    exact ⟨_, _, rfl, Int.fmod_nonneg_of_pos _ (by decide), Int.fmod_lt_of_pos _ (by decide)⟩
end Mine

end
local macro_rules | `(tactic| walk_at "none here") => `(tactic| skip)
theorem Join.rstca : True := by
  w_top off
  trivial
section
open PySem PySem.W PyProof.Rows PySem.Calls PySem.Spec
open PyProof.Rows.LCg
set_option maxRecDepth 100000
set_option maxHeartbeats 80000000
namespace Mine
noncomputable abbrev LawGlob (mg mb : Str → Option Value) (h₀ : Heap) : Prop := Glob 0 mg mb (List.map itemOf (recsOf Mine.hd.view_39)) (scalarsOf [] ++ constsW Mine.hd.view_39) [] (namesW Mine.hd.view_39 [Str.ofString "_norm_version"]) h₀
noncomputable abbrev cellO (d : Int) (t u : Tok) : Obj := { cls := .type "tuple", data := .seq #[.int (num d) t, .str (cellText d) u] 0 }
local macro_rules | `(tactic| k_ne) => `(tactic| (refine neN ?_; (try dsimp only); with_reducible first | assumption | exact Ne.symm (by assumption) | exact Nat.ne_of_gt (And.left (by assumption)) | exact Nat.ne_of_lt (And.left (by assumption)) | exact Nat.ne_of_gt (And.left (And.right (by assumption))) | exact Nat.ne_of_lt (And.left (And.right (by assumption))) | exact Nat.ne_of_gt (And.right (by assumption)) | exact Nat.ne_of_lt (And.right (by assumption)) | exact Nat.ne_of_gt (And.left (And.right (And.right (by assumption)))) | exact Nat.ne_of_lt (And.left (And.right (And.right (by assumption)))) | exact Nat.ne_of_gt (And.right (And.right (by assumption))) | exact Nat.ne_of_lt (And.right (And.right (by assumption))) | exact Nat.ne_of_gt (And.left (And.right (And.right (And.right (by assumption))))) | exact Nat.ne_of_lt (And.left (And.right (And.right (And.right (by assumption))))) | exact Nat.ne_of_gt (And.right (And.right (And.right (by assumption)))) | exact Nat.ne_of_lt (And.right (And.right (And.right (by assumption)))) | exact Nat.ne_of_gt (And.left (And.right (And.right (And.right (And.right (by assumption)))))) | exact Nat.ne_of_lt (And.left (And.right (And.right (And.right (And.right (by assumption)))))) | exact Nat.ne_of_gt (And.right (And.right (And.right (And.right (by assumption))))) | exact Nat.ne_of_lt (And.right (And.right (And.right (And.right (by assumption))))) | exact Nat.ne_of_gt (And.left (And.right (And.right (And.right (And.right (And.right (by assumption))))))) | exact Nat.ne_of_lt (And.left (And.right (And.right (And.right (And.right (And.right (by assumption))))))) | exact Nat.ne_of_gt (And.right (And.right (And.right (And.right (And.right (by assumption)))))) | exact Nat.ne_of_lt (And.right (And.right (And.right (And.right (And.right (by assumption)))))) | exact Nat.ne_of_gt (And.left (And.right (And.right (And.right (And.right (And.right (And.right (by assumption)))))))) | exact Nat.ne_of_lt (And.left (And.right (And.right (And.right (And.right (And.right (And.right (by assumption)))))))) | exact Nat.ne_of_gt (And.right (And.right (And.right (And.right (And.right (And.right (by assumption))))))) | exact Nat.ne_of_lt (And.right (And.right (And.right (And.right (And.right (And.right (by assumption))))))) | exact Nat.ne_of_gt (And.left (And.right (And.right (And.right (And.right (And.right (And.right (And.right (by assumption))))))))) | exact Nat.ne_of_lt (And.left (And.right (And.right (And.right (And.right (And.right (And.right (And.right (by assumption))))))))) | exact Nat.ne_of_gt (And.right (And.right (And.right (And.right (And.right (And.right (And.right (by assumption)))))))) | exact Nat.ne_of_lt (And.right (And.right (And.right (And.right (And.right (And.right (And.right (by assumption)))))))) | exact Nat.ne_of_gt (And.left (And.right (And.right (And.right (And.right (And.right (And.right (And.right (And.right (by assumption)))))))))) | exact Nat.ne_of_lt (And.left (And.right (And.right (And.right (And.right (And.right (And.right (And.right (And.right (by assumption)))))))))) | exact Nat.ne_of_gt (And.right (And.right (And.right (And.right (And.right (And.right (And.right (And.right (by assumption))))))))) | exact Nat.ne_of_lt (And.right (And.right (And.right (And.right (And.right (And.right (And.right (And.right (by assumption))))))))) | exact (And.left (And.left (by assumption))) | exact Ne.symm (And.left (And.left (by assumption))) | exact (And.left (And.right (And.left (by assumption)))) | exact Ne.symm (And.left (And.right (And.left (by assumption)))) | exact (And.right (And.right (And.left (by assumption)))) | exact Ne.symm (And.right (And.right (And.left (by assumption)))) | exact (And.left (And.left (And.right (by assumption)))) | exact Ne.symm (And.left (And.left (And.right (by assumption)))) | exact (And.left (And.right (And.left (And.right (by assumption))))) | exact Ne.symm (And.left (And.right (And.left (And.right (by assumption))))) | exact (And.right (And.right (And.left (And.right (by assumption))))) | exact Ne.symm (And.right (And.right (And.left (And.right (by assumption))))) | exact (And.left (And.right (by assumption))) | exact Ne.symm (And.left (And.right (by assumption))) | exact (And.left (And.right (And.right (by assumption)))) | exact Ne.symm (And.left (And.right (And.right (by assumption)))) | exact (And.right (And.right (And.right (by assumption)))) | exact Ne.symm (And.right (And.right (And.right (by assumption)))) | exact (And.left (And.left (And.right (And.right (by assumption))))) | exact Ne.symm (And.left (And.left (And.right (And.right (by assumption))))) | exact (And.left (And.right (And.left (And.right (And.right (by assumption)))))) | exact Ne.symm (And.left (And.right (And.left (And.right (And.right (by assumption)))))) | exact (And.right (And.right (And.left (And.right (And.right (by assumption)))))) | exact Ne.symm (And.right (And.right (And.left (And.right (And.right (by assumption)))))) | exact (And.left (And.right (And.right (by assumption)))) | exact Ne.symm (And.left (And.right (And.right (by assumption)))) | exact (And.left (And.right (And.right (And.right (by assumption))))) | exact Ne.symm (And.left (And.right (And.right (And.right (by assumption))))) | exact (And.right (And.right (And.right (And.right (by assumption))))) | exact Ne.symm (And.right (And.right (And.right (And.right (by assumption))))) | exact (And.left (And.left (And.right (And.right (And.right (by assumption)))))) | exact Ne.symm (And.left (And.left (And.right (And.right (And.right (by assumption)))))) | exact (And.left (And.right (And.left (And.right (And.right (And.right (by assumption))))))) | exact Ne.symm (And.left (And.right (And.left (And.right (And.right (And.right (by assumption))))))) | exact (And.right (And.right (And.left (And.right (And.right (And.right (by assumption))))))) | exact Ne.symm (And.right (And.right (And.left (And.right (And.right (And.right (by assumption))))))) | exact (And.left (And.right (And.right (And.right (by assumption))))) | exact Ne.symm (And.left (And.right (And.right (And.right (by assumption))))) | exact (And.left (And.right (And.right (And.right (And.right (by assumption)))))) | exact Ne.symm (And.left (And.right (And.right (And.right (And.right (by assumption)))))) | exact (And.right (And.right (And.right (And.right (And.right (by assumption)))))) | exact Ne.symm (And.right (And.right (And.right (And.right (And.right (by assumption)))))) | exact (And.left (And.left (And.right (And.right (And.right (And.right (by assumption))))))) | exact Ne.symm (And.left (And.left (And.right (And.right (And.right (And.right (by assumption))))))) | exact (And.left (And.right (And.left (And.right (And.right (And.right (And.right (by assumption)))))))) | exact Ne.symm (And.left (And.right (And.left (And.right (And.right (And.right (And.right (by assumption)))))))) | exact (And.right (And.right (And.left (And.right (And.right (And.right (And.right (by assumption)))))))) | exact Ne.symm (And.right (And.right (And.left (And.right (And.right (And.right (And.right (by assumption)))))))) | exact (And.left (And.right (And.right (And.right (And.right (by assumption)))))) | exact Ne.symm (And.left (And.right (And.right (And.right (And.right (by assumption)))))) | exact (And.left (And.right (And.right (And.right (And.right (And.right (by assumption))))))) | exact Ne.symm (And.left (And.right (And.right (And.right (And.right (And.right (by assumption))))))) | exact (And.right (And.right (And.right (And.right (And.right (And.right (by assumption))))))) | exact Ne.symm (And.right (And.right (And.right (And.right (And.right (And.right (by assumption))))))) | exact (And.left (And.left (And.right (And.right (And.right (And.right (And.right (by assumption)))))))) | exact Ne.symm (And.left (And.left (And.right (And.right (And.right (And.right (And.right (by assumption)))))))) | exact (And.left (And.right (And.left (And.right (And.right (And.right (And.right (And.right (by assumption))))))))) | exact Ne.symm (And.left (And.right (And.left (And.right (And.right (And.right (And.right (And.right (by assumption))))))))) | exact (And.right (And.right (And.left (And.right (And.right (And.right (And.right (And.right (by assumption))))))))) | exact Ne.symm (And.right (And.right (And.left (And.right (And.right (And.right (And.right (And.right (by assumption))))))))) | exact (And.left (And.right (And.right (And.right (And.right (And.right (by assumption))))))) | exact Ne.symm (And.left (And.right (And.right (And.right (And.right (And.right (by assumption))))))) | exact (And.left (And.right (And.right (And.right (And.right (And.right (And.right (by assumption)))))))) | exact Ne.symm (And.left (And.right (And.right (And.right (And.right (And.right (And.right (by assumption)))))))) | exact (And.right (And.right (And.right (And.right (And.right (And.right (And.right (by assumption)))))))) | exact Ne.symm (And.right (And.right (And.right (And.right (And.right (And.right (And.right (by assumption)))))))) | exact (And.left (And.left (And.right (And.right (And.right (And.right (And.right (And.right (by assumption))))))))) | exact Ne.symm (And.left (And.left (And.right (And.right (And.right (And.right (And.right (And.right (by assumption))))))))) | exact (And.left (And.right (And.left (And.right (And.right (And.right (And.right (And.right (And.right (by assumption)))))))))) | exact Ne.symm (And.left (And.right (And.left (And.right (And.right (And.right (And.right (And.right (And.right (by assumption)))))))))) | exact (And.right (And.right (And.left (And.right (And.right (And.right (And.right (And.right (And.right (by assumption)))))))))) | exact Ne.symm (And.right (And.right (And.left (And.right (And.right (And.right (And.right (And.right (And.right (by assumption)))))))))) | exact (And.left (And.right (And.right (And.right (And.right (And.right (And.right (by assumption)))))))) | exact Ne.symm (And.left (And.right (And.right (And.right (And.right (And.right (And.right (by assumption)))))))) | exact (And.left (And.right (And.right (And.right (And.right (And.right (And.right (And.right (by assumption))))))))) | exact Ne.symm (And.left (And.right (And.right (And.right (And.right (And.right (And.right (And.right (by assumption))))))))) | exact (And.right (And.right (And.right (And.right (And.right (And.right (And.right (And.right (by assumption))))))))) | exact Ne.symm (And.right (And.right (And.right (And.right (And.right (And.right (And.right (And.right (by assumption))))))))) | omega))
local macro_rules | `(tactic| k_all) => `(tactic| exact ne_of_all_lt (by assumption))
local macro_rules | `(tactic| walk_at "call ref") => `(tactic| (k_here; (with_reducible show wpAny _ _ (call (Value.ref 34) _) _ _ _); k_dflt (refine' draws_ctr _ _ _ _ ?hI ?hl2 _ _ _ _ _ _ _ _ _ _ _ _ _ _ _ _ _ _ _ _ _ _ _ ?hl ?B ?F ?X ?N ?T ?hk ?hd ?hu ?_; (case hI => assumption); (case hl2 => assumption); (case hl => assumption); (case B => assumption); (case F => k_asm); (case X => assumption); (case N => k_asm); (case T => assumption); (case hk => rfl); (case hd => decide); (case hu => decide)); rintro v' h' tk' D' d0 d1 d2 d3 t0 t1 t2 t3 c' e' ⟨q0, r0⟩ ⟨q1, r1⟩ ⟨q2, r2⟩ ⟨q3, r3⟩ F' N'; rw [e']; (have c0' := (cell_ok d0 q0 r0).1); (have c1' := (cell_ok d1 q1 r1).1); (have c2' := (cell_ok d2 q2 r2).1); (have c3' := (cell_ok d3 q3 r3).1)))
local macro_rules | `(tactic| walk_at "call ref") => `(tactic| (k_here; (with_reducible show wpAny _ _ (call (Value.ref 41) _) _ _ _); k_dflt (refine' cell_ctr _ _ _ _ ?h0 ?h1 ?hc _ _ _ _ _ _ _ _ _ _ _ _ _ _ _ _ _ _ _ _ _ _ ?B ?F ?X ?N ?T ?hk ?hd ?hu ?_; (case h0 => assumption); (case h1 => assumption); (case hc => assumption); (case B => assumption); (case F => k_asm); (case X => assumption); (case N => k_asm); (case T => assumption); (case hk => rfl); (case hd => decide); (case hu => decide)); rintro v' h' tk' own' ⟨a', t1', t2', e1', e2', l1'⟩ F' N'; rw [e1']; rw [e2'] at N'; simp only [List.cons_append, List.nil_append] at N'; (refine' (fun l2' => ?_) (allLt_of l1')); clear l1'; (try simp only [AllLt, and_true] at l2')))
theorem news_skip5 {h₀ h : Heap} {L : Addr} {a b c d e f : Addr × Obj} {r : List (Addr × Obj)} (N : News h₀ L h (a :: b :: c :: d :: e :: f :: r)) : News h₀ L h (a :: b :: c :: d :: e :: r) := fun p hp => N p (by
  simp only [List.mem_cons] at hp ⊢
  rcases hp with h | h | h | h | h | h
  · exact .inl h
  · exact .inr (.inl h)
  · exact .inr (.inr (.inl h))
  · exact .inr (.inr (.inr (.inl h)))
  · exact .inr (.inr (.inr (.inr (.inl h))))
  · exact .inr (.inr (.inr (.inr (.inr (.inr h))))))
theorem law_drawn (w : World) {h₀ : Heap} {mean : ExcName → Option Value} {mg mb : Str → Option Value} {L a aS : Addr} {cd : Value} {base : Heap} {m : Str → Option Value} {s : Shared} {oN oT : Obj} {Q : Flow → Shared → Prop} {vals : List Value} {script : List Int}
    (T : Top Mine.hd.view_39 (looseW Mine.hd.view_39 [Str.ofString "_norm_version"]) mean mg mb h₀) (X : (Mine.hd.heap_39 w.params).In h₀) (B : Below callerA base [] h₀)
    (F : Fr h₀ L s.heap (fun y => if y = Str.ofString "script" then some (.ref aS) else none)) (N : News h₀ L s.heap [(L + 1 + 1, oT), (L + 1, oN)]) (hl : h₀.IsList aS vals.toArray) (hI : IntsAre vals script) (hlen : script.length ≤ 63)
    (hk : ∀ h' tk' aD b0 b1 b2 b3 d0 d1 d2 d3 u0 u1 u2 u3 v0 v1 v2 v3 c, 0 ≤ d0 → d0 < 28656 → 0 ≤ d1 → d1 < 28656 → 0 ≤ d2 → d2 < 28656 → 0 ≤ d3 → d3 < 28656 →
      Fr h₀ L h' (fun y => if y = Str.ofString "drawn" then some (.ref aD) else if y = Str.ofString "script" then some (.ref aS) else none) →
      News h₀ L h' ((aD, listO #[.ref b0, .ref b1, .ref b2, .ref b3] c) :: (b3, cellO d3 u3 v3) :: (b2, cellO d2 u2 v2) :: (b1, cellO d1 u1 v1) :: (b0, cellO d0 u0 v0) :: [(L + 1 + 1, oT), (L + 1, oN)]) → Q .next { s with heap := h', toks := tk' }) :
    wpAny (lawM w) (lawA L a cd) (exec (lawSt 0) (lawEnv L a cd)) Q (fun _ _ => False) s := by
  revert X
  dsimp only [lawM]
  k_fill
  intro X
  dsimp only [lawSt, lawBody, bodyOf, List.getD_cons_zero, List.getD_cons_succ, lawEnv, lawA, lawScope, scopeOf]
  have hnw := news_lt N
  refine Assign_ListComp_U F rfl (by with_unfolding_all rfl) (by rfl) (by decide) (by rfl) (by decide) (by rfl) (by rfl) (by rfl) ?_
  k_steps
  rename (News h₀ L _ _) => N9
  rename (Fr h₀ L _ _) => F9
  exact hk _ _ _ _ _ _ _ _ _ _ _ _ _ _ _ _ _ _ _ _ (by assumption) (by assumption) (by assumption) (by assumption) (by assumption) (by assumption) (by assumption) (by assumption) F9 (news_skip5 N9)
end Mine

end
section
open PySem PySem.W PyProof.Rows PySem.Calls PySem.Spec
open PyProof.Rows.LCg
set_option maxRecDepth 100000
namespace Mine
section
variable {prog : Program} {w : World} {A : Around} {E : Value → Shared → Prop} {s : Shared} {h₀ : Heap} {L : Addr} {m : Str → Option Value} {env : Env} {R : Result → Shared → Prop}
/-- a pair unpacked into two names of a comprehension's own frame -/
theorem assign_pair_comp {scope : Scope} {cl : List (Str × Addr)} {x1 x2 : Str} {p1 p2 pt : Pos} {ct : Nat} {v1 v2 : Value} {I C t : Addr} {oI oC : Obj} {m₂ : Str → Option Value} {news : List (Addr × Obj)} {Q : Unit → Shared → Prop}
    (hh : A.handled = none) (h1 : scope.names.lookup x1 = some .local) (h2 : scope.names.lookup x2 = some .local) (hkind : scope.kind = .function) (hNs : NsObj oC m₂) (F : Fr h₀ L s.heap m) (N : News h₀ L s.heap ((I, oI) :: (C, oC) :: news)) (hIC : I ≠ C) (hne : ∀ p ∈ news, p.1 ≠ C)
    (ht : (t, { cls := .type "tuple", data := .seq #[v1, v2] 0 }) ∈ news)
    (h : ∀ h' tk oC', NsObj oC' (fun y => if y = x2 then some v2 else if y = x1 then some v1 else m₂ y) → Fr h₀ L h' m → News h₀ L h' ((I, oI) :: (C, oC') :: news) → Q () { s with heap := h', toks := tk }) :
    wpAny (model prog w) A (assign (.Tuple [.Name x1 p1, .Name x2 p2] ct pt) (compEnvC scope cl C env) (.ref t)) Q E s := by
  have hti : s.heap.IsTuple t #[v1, v2] := ⟨_, (N _ (.tail _ (.tail _ ht))).1, rfl, _, rfl⟩
  refine wpAny_assign_Tuple hh hti rfl rfl fun h' up => ?_
  have lt : ∀ b o, s.heap.get? b = some o → b ≠ s.heap.objs.size := fun b o e => Nat.ne_of_lt (Heap.lt_size e)
  have F1 : Fr h₀ L h' m := F.keeps fun b o e => up b o (lt b o e) e
  have N1 : News h₀ L h' ((I, oI) :: (C, oC) :: news) := fun p hp => ⟨up _ _ (lt _ _ (N p hp).1) (N p hp).1, (N p hp).2⟩
  show wpAny _ A (do holding [v2] (assign (.Name x1 p1) (compEnvC scope cl C env) v1); assignInOrder [assign (.Name x2 p2) (compEnvC scope cl C env)] [v2]) Q E _
  refine wpAny_bind (wpAny_holding (assign_comp h1 hkind hNs F1 N1 hIC hne ?_))
  intro h2' tk2 oC2 hNs2 F2 N2
  show wpAny _ A (do holding [] (assign (.Name x2 p2) (compEnvC scope cl C env) v2); assignInOrder [] []) Q E _
  refine wpAny_bind (wpAny_holding (assign_comp h2 hkind hNs2 F2 N2 hIC hne ?_))
  intro h3 tk3 oC3 hNs3 F3 N3
  exact wpAny_pure (h h3 tk3 oC3 hNs3 F3 N3)
/-- what holds ahead of a turn of the inner clause over a walk -/
inductive IWInv (h₀ : Heap) (L : Addr) (m : Str → Option Value) (I9 C D : Addr) (n len : Nat) (s : Shared) (St : Nat → Heap → Prop) (J : Nat → List Value → List (Addr × Obj) → (Str → Option Value) → Prop) (k : Nat) (s' : Shared) : Prop
  | mk (h' : Heap) (tk j : Nat) (ys' : List Value) (news' : List (Addr × Obj)) (m' : Str → Option Value) (oC' o' : Obj) : s' = { s with heap := h', toks := tk } → j ≤ n → k = n + 1 - j → ys'.length = len + j → J j ys' news' m' → St j h' → NsObj oC' m' → Fr h₀ L h' m →
    News h₀ L h' ((I9, o') :: (C, oC') :: (D, lst ys') :: news') → Off3 I9 C D news' → IWInv h₀ L m I9 C D n len s St J k s'
/-- the inner clause of a comprehension with two generators, over a walk -/
theorem start_walk2 {elt t0 i0 i1 : Expr} {x1 : Str} {p1 : Pos} {scope : Scope} {cl : List (Str × Addr)} {pos : Pos} {I9 C D : Addr} {oC o9 : Obj} {n : Nat} {P : Nat → Value → Prop} {St : Nat → Heap → Prop} {ys : List Value} {news : List (Addr × Obj)} {m₂ : Str → Option Value}
    (W : Walks prog w A I9 [I9] [I9] n P St) (hSt : St 0 s.heap) (hobj : ∀ i h, St i h → ∃ o, h.get? I9 = some o)
    (hx : scope.names.lookup x1 = some .local) (hkind : scope.kind = .function)
    (hNs : NsObj oC m₂) (F : Fr h₀ L s.heap m) (N : News h₀ L s.heap ((I9, o9) :: (C, oC) :: (D, lst ys) :: news))
    (hCD : C ≠ D) (hIC : I9 ≠ C) (hID : I9 ≠ D) (off : Off3 I9 C D news) (hsz : ys.length + n ≤ sizeLine)
    (J : Nat → List Value → List (Addr × Obj) → (Str → Option Value) → Prop) (h0 : J 0 ys news m₂)
    (turn : ∀ j v ys' news' m' h tk oC' o' (Qy : Value → Shared → Prop), j < n → P j v → J j ys' news' m' → NsObj oC' (fun y => if y = x1 then some v else m' y) → Fr h₀ L h m →
      News h₀ L h ((I9, o') :: (C, oC') :: (D, lst ys') :: news') → Off3 I9 C D news' →
      (∀ y h' tk' news2, Fr h₀ L h' m → News h₀ L h' ((I9, o') :: (C, oC') :: (D, lst ys') :: news2) → Off3 I9 C D news2 → J (j + 1) (ys' ++ [y]) news2 (fun y => if y = x1 then some v else m' y) → Qy y { s with heap := h', toks := tk' }) →
      wpAny (model prog w) A (eval elt (compEnvC scope cl C env)) Qy (fun _ _ => False) { s with heap := h, toks := tk })
    (done : ∀ h' tk oC' m' ys' news', J n ys' news' m' → NsObj oC' m' → Fr h₀ L h' m → News h₀ L h' ((C, oC') :: (D, lst ys') :: news') → Off3 I9 C D news' → R (.ok .next) { s with heap := h', toks := tk }) :
    codeAny (model prog w) A (.compStart (comp2 elt t0 i0 (.Name x1 p1) i1 scope pos) 1 (.ref I9) (.ref D) (compEnvC scope cl C env)) R s := by
  have loop : codeAny (model prog w) A (.compLoop (comp2 elt t0 i0 (.Name x1 p1) i1 scope pos) 1 (.ref I9) (.ref D) (compEnvC scope cl C env)) R s := by
    refine codeAny_inner2
      (IWInv h₀ L m I9 C D n ys.length s St J) ?_ (by intro _; rfl) (n + 1)
      ⟨s.heap, s.toks, 0, ys, news, m₂, oC, o9, rfl, Nat.zero_le _, rfl, rfl, h0, hSt, hNs, F, N, off⟩
    rintro k s' ⟨h', tk, j, ys', news', m', oC', o', rfl, hj, rfl, hlen, hJ, hst, hNs', F', N', off'⟩
    have off3 := off'.mem
    have zI := N' _ (.head _)
    have neI : ∀ p ∈ (C, oC') :: (D, lst ys') :: news', p.1 ≠ I9 := fun p hp => by
      rcases List.mem_cons.mp hp with rfl | hp
      · exact Ne.symm hIC
      · rcases List.mem_cons.mp hp with rfl | hp
        · exact Ne.symm hID
        · exact (off3 p hp).1
    by_cases hlt : j < n
    · refine W.item j _ _ _ hlt hst fun v h1 tk1 hP hst1 up1 => ?_
      obtain ⟨o1, e1⟩ := hobj _ _ hst1
      obtain ⟨F1, N1⟩ := step_at F' N' neI e1 (fun b y hb e => up1 b y (fun q => hb (List.mem_singleton.mp q)) e)
      refine assign_comp hx hkind hNs' F1 N1 hIC ?_ ?_
      · intro p hp
        rcases List.mem_cons.mp hp with rfl | hp
        · exact Ne.symm hCD
        · exact (off3 p hp).2.1
      intro h2 tk2 oC2 hNs2 F2 N2
      have st_of : ∀ h, h.get? I9 = some o1 → St (j + 1) h := fun h e => W.frame _ _ _ hst1 fun b hb o e' => by
        rw [List.mem_singleton.mp hb] at e' ⊢
        rw [e1] at e'; cases e'; exact e
      refine turn j v ys' news' m' h2 tk2 oC2 o1 _ hlt hP hJ hNs2 F2 N2 off' fun y h4 tk4 news4 F4 N4 off4 hJ4 => ?_
      have zD := N4 (D, lst ys') (.tail _ (.tail _ (.head _)))
      have off4' := off4.mem
      refine append_at (hsz := by show ys'.toArray.size ≤ sizeLine; rw [List.size_toArray, hlen]; omega) zD.1 fun h5 hs5 hD5 => ?_
      have up : ∀ c x, c ≠ D → h4.get? c = some x → h5.get? c = some x := fun c x hc e => hs5.extBut c x hc e
      have gI : h5.get? I9 = some o1 := up _ _ hID (N4 _ (.head _)).1
      refine ⟨n + 1 - (j + 1), by omega, h5, _, j + 1, ys' ++ [y], news4, _, oC2, o1, rfl, hlt, rfl, by rw [List.length_append, List.length_singleton, hlen]; omega, hJ4, st_of _ gI, hNs2, fr_put0 F4 zD.2.1 zD.2.2 up, fun p hp => ?_, off4⟩
      rcases List.mem_cons.mp hp with rfl | hp
      · exact ⟨gI, (N4 _ (.head _)).2⟩
      · rcases List.mem_cons.mp hp with rfl | hp
        · have z := N4 _ (.tail _ (.head _))
          exact ⟨up _ _ hCD z.1, z.2⟩
        · rcases List.mem_cons.mp hp with rfl | hp
          · exact ⟨hD5.trans (congrArg some (lst_snoc ys' y)), zD.2⟩
          · have z := N4 p (.tail _ (.tail _ (.tail _ hp)))
            exact ⟨up _ _ (off4' p hp).2.2 z.1, z.2⟩
    · obtain rfl : j = n := by omega
      refine W.done _ _ _ hst fun h1 tk1 up1 => ?_
      have up : ∀ b y, b ≠ I9 → h'.get? b = some y → h1.get? b = some y := fun b y hb e => up1 b y (fun q => hb (List.mem_singleton.mp q)) e
      exact done h1 _ oC' m' ys' news' hJ hNs' (fr_put0 F' zI.2.1 zI.2.2 up) (fun p hp => ⟨up _ _ (neI p hp) (N' p (.tail _ hp)).1, (N' p (.tail _ hp)).2⟩) off'
  exact codeAny_start2 loop (W.self _ _ _ _ hSt loop)
end
end Mine

end
section
open PySem PySem.W PyProof.Rows PySem.Calls PySem.Spec
set_option maxRecDepth 100000
namespace Mine
/-- the octets of a text whose signs lie below 128 -/
noncomputable def octets (x : Str) : List UInt8 := x.cps.toList.map fun c => c.toUInt8
noncomputable def tapeOf (xs : List Str) : Array UInt8 := (xs.flatMap octets).toArray
theorem octets_len {x : Str} {n : Int} (h : CellOk x n) : (octets x).length = 5 := by rw [octets, List.length_map, h.len]
section
variable {x0 x1 x2 x3 : Str} (h0 : (octets x0).length = 5) (h1 : (octets x1).length = 5) (h2 : (octets x2).length = 5) (h3 : (octets x3).length = 5)
include h0 h1 h2 h3
theorem tape_back : swapAll (tapeOf [x0, x1, x2, x3]) 20 1 = (tapeOf [x0, x1, x2, x3]).toList.reverse.toArray := by
  obtain ⟨a0, a1, a2, a3, a4, ea⟩ := list5 h0
  obtain ⟨b0, b1, b2, b3, b4, eb⟩ := list5 h1
  obtain ⟨c0, c1, c2, c3, c4, ec⟩ := list5 h2
  obtain ⟨d0, d1, d2, d3, d4, ed⟩ := list5 h3
  simp only [tapeOf, List.flatMap_cons, List.flatMap_nil, ea, eb, ec, ed]
  kernel_rfl
theorem tape_size : (tapeOf [x0, x1, x2, x3]).size = 20 := by
  simp only [tapeOf, List.flatMap_cons, List.flatMap_nil, List.size_toArray, List.length_append, h0, h1, h2, h3, List.length_nil]
end
theorem octet_back {x : Str} {n : Int} (h : CellOk x n) : (octets x).map (fun c => c.toNat) = x.cps.toList := by
  rw [octets, List.map_map]
  refine (List.map_congr_left (g := id) fun c hc => ?_).trans (List.map_id _)
  have := (h.sig c hc).1
  show (UInt8.ofNat c).toNat = c
  rw [UInt8.toNat_ofNat']
  omega
end Mine

end
local macro_rules | `(tactic| walk_at "none here") => `(tactic| skip)
local macro_rules | `(tactic| walk_at "none here") => `(tactic| skip)
local macro_rules | `(tactic| walk_at "none here") => `(tactic| skip)
theorem Join.rstcd : True := by
  w_top off
  trivial
section
open PySem PySem.W PyProof.Rows PySem.Calls PySem.Spec
open PyProof.Rows.LCg
set_option maxRecDepth 100000
set_option maxHeartbeats 80000000
namespace Mine
local macro_rules | `(tactic| k_all) => `(tactic| exact ne_of_all_lt (by assumption))
theorem law_numbers (w : World) {h₀ : Heap} {mean : ExcName → Option Value} {mg mb : Str → Option Value} {L a aS : Addr} {cd : Value} {base : Heap} {s : Shared} {oN oT : Obj} {xN : Option Value} {Q : Flow → Shared → Prop}
    {aD b0 b1 b2 b3 : Addr} {d0 d1 d2 d3 : Int} {u0 u1 u2 u3 v0 v1 v2 v3 : Tok} {c : Nat}
    (T : Top Mine.hd.view_39 (looseW Mine.hd.view_39 [Str.ofString "_norm_version"]) mean mg mb h₀) (X : (Mine.hd.heap_39 w.params).In h₀) (B : Below callerA base [] h₀)
    (F : Fr h₀ L s.heap (fun y => if y = Str.ofString "drawn" then some (.ref aD) else if y = Str.ofString "script" then some (.ref aS) else none))
    (N : News h₀ L s.heap [(aD, listO #[.ref b0, .ref b1, .ref b2, .ref b3] c), (b3, cellO d3 u3 v3), (b2, cellO d2 u2 v2), (b1, cellO d1 u1 v1), (b0, cellO d0 u0 v0), (L + 1 + 1, oT), (L + 1, oN)])
    (hdN : oN.data = .cell xN)
    (hk : ∀ h' tk' aN oN', oN'.data = .cell (some (.ref aN)) → Fr h₀ L h' (fun y => if y = Str.ofString "drawn" then some (.ref aD) else if y = Str.ofString "script" then some (.ref aS) else none) →
      News h₀ L h' [(aN, listO #[.int (num d0) u0, .int (num d1) u1, .int (num d2) u2, .int (num d3) u3] 4), (aD, listO #[.ref b0, .ref b1, .ref b2, .ref b3] c), (b3, cellO d3 u3 v3), (b2, cellO d2 u2 v2), (b1, cellO d1 u1 v1), (b0, cellO d0 u0 v0), (L + 1 + 1, oT), (L + 1, oN')] → Q .next { s with heap := h', toks := tk' }) :
    wpAny (lawM w) (lawA L a cd) (exec (lawSt 1) (lawEnv L a cd)) Q (fun _ _ => False) s := by
  revert X
  dsimp only [lawM]
  k_fill
  intro X
  dsimp only [lawSt, lawBody, bodyOf, List.getD_cons_zero, List.getD_cons_succ, lawEnv, lawA, lawScope, scopeOf]
  show wpAny _ _ (exec (Stmt.Assign _ _ _) _) _ _ _
  have hnw := news_lt N
  refine wpAny_Assign_Name ?_ (by with_unfolding_all rfl)
  refine LCp.ListComp_P F (by rfl) (by decide) (by rfl) (by decide) (by rfl) (by rfl) (by decide) ?_
  refine wpAny_mono (Q := fun v s' => Halt (v = .ref aD ∧ s' = s)) ?_ ?_ (fun _ _ x => x)
  · k_steps
    exact ⟨rfl, rfl⟩
  rintro v s' ⟨rfl, rfl⟩
  refine LCp.SrcLP.ledger rfl F N (.head _) (Nat.le_of_ble_eq_true rfl) ?_
  intro g
  refine LCp.CompRestP.succ ?_
  intro v hv
  obtain rfl : v = .ref b0 := by simpa using hv.symm
  refine ⟨b0, _, _, _, 0, rfl, .tail _ (.tail _ (.tail _ (.tail _ (.head _)))), rfl, rfl, ?_⟩
  intro I oI C oC D m₂ h tk E' hNs hx hx2 F1 N1 off1 ne1
  refine LCgL.ld_own N1 (.tail _ (.head _)) hNs hx ?_
  refine ⟨h, tk, _, rfl, F1, N1, off1, .inr ⟨_, .head _, rfl, _, rfl⟩, ?_⟩
  clear hNs hx hx2 F1 N1 off1 ne1 hv
  refine LCp.CompRestP.succ ?_
  intro v hv
  obtain rfl : v = .ref b1 := by simpa using hv.symm
  refine ⟨b1, _, _, _, 0, rfl, .tail _ (.tail _ (.tail _ (.head _))), rfl, rfl, ?_⟩
  intro I oI C oC D m₂ h tk E' hNs hx hx2 F1 N1 off1 ne1
  refine LCgL.ld_own N1 (.tail _ (.head _)) hNs hx ?_
  refine ⟨h, tk, _, rfl, F1, N1, off1, .inr ⟨_, .head _, rfl, _, rfl⟩, ?_⟩
  clear hNs hx hx2 F1 N1 off1 ne1 hv
  refine LCp.CompRestP.succ ?_
  intro v hv
  obtain rfl : v = .ref b2 := by simpa using hv.symm
  refine ⟨b2, _, _, _, 0, rfl, .tail _ (.tail _ (.head _)), rfl, rfl, ?_⟩
  intro I oI C oC D m₂ h tk E' hNs hx hx2 F1 N1 off1 ne1
  refine LCgL.ld_own N1 (.tail _ (.head _)) hNs hx ?_
  refine ⟨h, tk, _, rfl, F1, N1, off1, .inr ⟨_, .head _, rfl, _, rfl⟩, ?_⟩
  clear hNs hx hx2 F1 N1 off1 ne1 hv
  refine LCp.CompRestP.succ ?_
  intro v hv
  obtain rfl : v = .ref b3 := by simpa using hv.symm
  refine ⟨b3, _, _, _, 0, rfl, .tail _ (.head _), rfl, rfl, ?_⟩
  intro I oI C oC D m₂ h tk E' hNs hx hx2 F1 N1 off1 ne1
  refine LCgL.ld_own N1 (.tail _ (.head _)) hNs hx ?_
  refine ⟨h, tk, _, rfl, F1, N1, off1, .inr ⟨_, .head _, rfl, _, rfl⟩, ?_⟩
  clear hNs hx hx2 F1 N1 off1 ne1 hv
  refine LCp.CompRestP.zero ?_
  intro D h tk F2 N2 off2
  have mN : (L + 1, oN) ∈ [(D, lst [Value.int (num d0) u0, Value.int (num d1) u1, Value.int (num d2) u2, Value.int (num d3) u3]), (aD, listO #[.ref b0, .ref b1, .ref b2, .ref b3] c), (b3, cellO d3 u3 v3), (b2, cellO d2 u2 v2), (b1, cellO d1 u1 v1), (b0, cellO d0 u0 v0), (L + 1 + 1, oT), (L + 1, oN)] := .tail _ (.tail _ (.tail _ (.tail _ (.tail _ (.tail _ (.tail _ (.head _)))))))
  have ne : ∀ {b : Addr} {o : Obj} {its : Array Value} {j : Nat}, o.data = .seq its j → (b, o) ∈ [(D, lst [Value.int (num d0) u0, Value.int (num d1) u1, Value.int (num d2) u2, Value.int (num d3) u3]), (aD, listO #[.ref b0, .ref b1, .ref b2, .ref b3] c), (b3, cellO d3 u3 v3), (b2, cellO d2 u2 v2), (b1, cellO d1 u1 v1), (b0, cellO d0 u0 v0), (L + 1 + 1, oT), (L + 1, oN)] → b ≠ L + 1 := fun hd hm => news_ne N2 hm mN (by rw [hd, hdN]; intro q; cases q)
  refine' storeX_C (c := L + 1) F2 N2 rfl (UpdF.tail ?a0 (UpdF.tail ?a1 (UpdF.tail ?a2 (UpdF.tail ?a3 (UpdF.tail ?a4 (UpdF.tail ?a5 (UpdF.tail ?a6 (UpdF.head ?a7)))))))) hdN ?_
  case a0 => exact ne rfl (.head _)
  case a1 => exact ne rfl (.tail _ (.head _))
  case a2 => exact ne rfl (.tail _ (.tail _ (.head _)))
  case a3 => exact ne rfl (.tail _ (.tail _ (.tail _ (.head _))))
  case a4 => exact ne rfl (.tail _ (.tail _ (.tail _ (.tail _ (.head _)))))
  case a5 => exact ne rfl (.tail _ (.tail _ (.tail _ (.tail _ (.tail _ (.head _))))))
  case a6 => exact Nat.succ_ne_self _
  case a7 => exact List.forall_mem_nil _
  intro h' o' F3 N3 d3'
  exact hk _ _ _ _ d3' F3 N3
end Mine

end
local macro_rules | `(tactic| walk_at "none here") => `(tactic| skip)
theorem Join.rstce : True := by
  w_top off
  trivial
section
open PySem PySem.W PyProof.Rows PySem.Calls PySem.Spec
open PyProof.Rows.LCg
set_option maxRecDepth 100000
set_option maxHeartbeats 80000000
namespace Mine
local macro_rules | `(tactic| k_all) => `(tactic| exact ne_of_all_lt (by assumption))
noncomputable def codesI (x : Str) : List Int := x.cps.toList.map fun (c : Nat) => (c : Int)
theorem codesI_len {x : Str} {n : Int} (h : CellOk x n) : (codesI x).length = 5 := by rw [codesI, List.length_map, h.len]
theorem take_snoc {α : Type} {l : List α} {i : Nat} {x : α} (h : l[i]? = some x) : l.take (i + 1) = l.take i ++ [x] := by
  rw [List.take_add_one, h]; rfl
theorem ascii_of {x : Str} {n : Int} (h : CellOk x n) : x.cps.all (· < 128) = true := by
  rw [← Array.all_toList, List.all_eq_true]
  exact fun c hc => decide_eq_true (h.sig c hc).1
theorem byteArr_codes (xs : List Str) : byteArr (xs.flatMap codesI) = tapeOf xs := by
  unfold byteArr tapeOf
  congr 1
  induction xs with
  | nil => rfl
  | cons x r ih =>
    rw [List.flatMap_cons, List.map_append, ih, List.flatMap_cons]
    congr 1
    rw [codesI, octets, List.map_map]
    rfl
theorem law_start (w : World) {h₀ : Heap} {mean : ExcName → Option Value} {mg mb : Str → Option Value} {L a aS : Addr} {cd : Value} {base : Heap} {s : Shared} {oN oT : Obj} {Q : Flow → Shared → Prop}
    {aN aD b0 b1 b2 b3 : Addr} {d0 d1 d2 d3 : Int} {u0 u1 u2 u3 v0 v1 v2 v3 : Tok} {c : Nat}
    (T : Top Mine.hd.view_39 (looseW Mine.hd.view_39 [Str.ofString "_norm_version"]) mean mg mb h₀) (X : (Mine.hd.heap_39 w.params).In h₀) (B : Below callerA base [] h₀)
    (F : Fr h₀ L s.heap (fun y => if y = Str.ofString "drawn" then some (.ref aD) else if y = Str.ofString "script" then some (.ref aS) else none))
    (N : News h₀ L s.heap [(aN, listO #[.int (num d0) u0, .int (num d1) u1, .int (num d2) u2, .int (num d3) u3] 4), (aD, listO #[.ref b0, .ref b1, .ref b2, .ref b3] c), (b3, cellO d3 u3 v3), (b2, cellO d2 u2 v2), (b1, cellO d1 u1 v1), (b0, cellO d0 u0 v0), (L + 1 + 1, oT), (L + 1, oN)])
    (k0 : CellOk (cellText d0) (num d0)) (k1 : CellOk (cellText d1) (num d1)) (k2 : CellOk (cellText d2) (num d2)) (k3 : CellOk (cellText d3) (num d3))
    (hk : ∀ h' tk' tS, Fr h₀ L h' (fun y => if y = Str.ofString "start" then some (.bytes (tapeOf [cellText d0, cellText d1, cellText d2, cellText d3]) tS) else if y = Str.ofString "drawn" then some (.ref aD) else if y = Str.ofString "script" then some (.ref aS) else none) →
      News h₀ L h' [(aN, listO #[.int (num d0) u0, .int (num d1) u1, .int (num d2) u2, .int (num d3) u3] 4), (L + 1 + 1, oT), (L + 1, oN)] → Q .next { s with heap := h', toks := tk' }) :
    wpC (lawM w) (lawA L a cd) (exec (lawSt 2) (lawEnv L a cd)) Q (fun _ _ => False) s := by
  revert X
  dsimp only [lawM]
  k_fill
  intro X
  dsimp only [lawSt, lawBody, bodyOf, List.getD_cons_zero, List.getD_cons_succ, lawEnv, lawA, lawScope, scopeOf]
  show wpC _ _ (exec (Stmt.Assign _ _ _) _) _ _ _
  have hnw := news_lt N
  refine wpC_Assign_Name (wpC_Call_Name ?_) (by with_unfolding_all rfl)
  k_steps
  refine wpC_callWith_type1 (wpC_args (wpC_any ?_) rfl)
  generalize hL5 : [(aN, listO #[.int (num d0) u0, .int (num d1) u1, .int (num d2) u2, .int (num d3) u3] 4), (aD, listO #[.ref b0, .ref b1, .ref b2, .ref b3] c), (b3, cellO d3 u3 v3), (b2, cellO d2 u2 v2), (b1, cellO d1 u1 v1), (b0, cellO d0 u0 v0), (L + 1 + 1, oT), (L + 1, oN)] = L5 at N
  refine ListComp2 F rfl (by rfl) (by decide) (by rfl) (by decide) (by intro _ _; rfl) (by intro _; rfl) ?_
  have mD : (aD, listO #[.ref b0, .ref b1, .ref b2, .ref b3] c) ∈ L5 := by rw [← hL5]; exact .tail _ (.head _)
  have item : ∀ (i : Nat) (v : Value), #[Value.ref b0, .ref b1, .ref b2, .ref b3][i]? = some v → ∃ b d u v', v = .ref b ∧ (b, cellO d u v') ∈ L5 ∧ [cellText d0, cellText d1, cellText d2, cellText d3][i]? = some (cellText d) ∧ CellOk (cellText d) (num d) := by
    rw [← hL5]
    exact get4 (P := fun i v => ∃ b d u v', v = Value.ref b ∧ (b, cellO d u v') ∈ _ ∧ [cellText d0, cellText d1, cellText d2, cellText d3][i]? = some (cellText d) ∧ CellOk (cellText d) (num d))
      ⟨b0, d0, u0, v0, rfl, .tail _ (.tail _ (.tail _ (.tail _ (.tail _ (.head _))))), rfl, k0⟩ ⟨b1, d1, u1, v1, rfl, .tail _ (.tail _ (.tail _ (.tail _ (.head _)))), rfl, k1⟩
      ⟨b2, d2, u2, v2, rfl, .tail _ (.tail _ (.tail _ (.head _))), rfl, k2⟩ ⟨b3, d3, u3, v3, rfl, .tail _ (.tail _ (.head _)), rfl, k3⟩
  have N0 := N
  refine wpAny_mono (Q := fun v s' => Halt (v = .ref aD ∧ s' = s)) ?_ ?_ (fun _ _ x => x)
  · k_steps
    exact ⟨rfl, rfl⟩
  rintro v s' ⟨rfl, rfl⟩
  refine ⟨aD, _, c, L5, rfl, F, N, mD, ?_⟩
  rintro s₂ ⟨hh5, rfl⟩
  refine Outer2.ind (P := fun n i zs nw m₂ => n + i = 4 ∧ nw = L5 ∧ IntsAre zs (([cellText d0, cellText d1, cellText d2, cellText d3].take i).flatMap codesI)) ?_ ?_ _ _ _ _ _ ⟨rfl, rfl, .nil⟩
  · rintro i zs nw m₂ ⟨e1, e2, e3⟩
    obtain rfl : i = 4 := by omega
    intro D h6 tk6 F6 N6 off6
    rw [e2, ← hL5] at N6
    dsimp only
    k_steps
    refine wpC_any ?_
    have hco : ∀ x : Str, ∀ n ∈ codesI x, 0 ≤ n := fun x n hn => by
      obtain ⟨c, _, rfl⟩ := List.mem_map.mp hn
      exact Int.natCast_nonneg c
    have hin : KBa.In (([cellText d0, cellText d1, cellText d2, cellText d3].take 4).flatMap codesI) := fun n hn => by
      obtain ⟨x, hx, hn⟩ := List.mem_flatMap.mp hn
      have ok : ∃ m, CellOk x m := by
        simp only [List.take_succ_cons, List.take_zero, List.mem_cons, List.not_mem_nil, or_false] at hx
        rcases hx with rfl | rfl | rfl | rfl
        · exact ⟨_, k0⟩
        · exact ⟨_, k1⟩
        · exact ⟨_, k2⟩
        · exact ⟨_, k3⟩
      obtain ⟨m, hm⟩ := ok
      obtain ⟨c, hc, rfl⟩ := List.mem_map.mp hn
      have := (hm.sig c hc).1
      omega
    have hz := e3.length
    refine KBa.make_K F6 N6 rfl (News.isList N6 (.head _)) e3 hin ?_ ?_
    · simp only [List.take_succ_cons, List.take_zero, List.flatMap_cons, List.flatMap_nil, List.length_append, codesI_len k0, codesI_len k1, codesI_len k2, codesI_len k3, List.length_nil]
      decide
    intro h7 t7 k7 F7 N7 _
    clear F6 N6
    k_steps
    rename (Fr h₀ L _ _) => F9
    rename (News h₀ L _ _) => N9
    have eb : byteArr (List.flatMap codesI (List.take 4 [cellText d0, cellText d1, cellText d2, cellText d3])) = tapeOf [cellText d0, cellText d1, cellText d2, cellText d3] := byteArr_codes _
    rw [eb] at F9
    refine hk _ _ _ F9 fun p hp => N9 p ?_
    simp only [List.mem_cons, List.not_mem_nil, or_false] at hp ⊢
    rcases hp with h | h | h
    · exact .inr (.inl h)
    · exact .inr (.inr (.inr (.inr (.inr (.inr (.inr (.inl h)))))))
    · exact .inr (.inr (.inr (.inr (.inr (.inr (.inr (.inr h)))))))
  · rintro n i zs nw m₂ ⟨e1, e2, e3⟩ v I7 oI7 C7 oC7 D7 h7 tk7 RR hv hIt hNs F7 N7 off7 ne7 hRR
    rw [e2] at N7 off7
    obtain ⟨b, d, u, v', rfl, mb, hx, ck⟩ := item i v hv
    have o3 := off7.mem
    refine wpAny_letOwnedTupleGo_listiter (i := i + 1) ⟨_, (N7 _ (.head _)).1, hIt.cls, hIt.data⟩ ?_
    refine assign_pair_comp rfl (by rfl) (by rfl) (by rfl) hNs F7 N7 ne7.1 ?_ (.tail _ mb) ?_
    · intro p hp
      rcases List.mem_cons.mp hp with rfl | hp
      · exact Ne.symm ne7.2.2
      · exact (o3 p hp).2.1
    intro h8 tk8 oC8 hNs8 F8 N8
    refine LCgL.ld_own N8 (.tail _ (.head _)) hNs8 rfl ?_
    refine wpAny_pyIter_ascii (ascii_of ck) ?_
    have lt8 := news_lt N8
    have up8 : ∀ (x : Obj), ∀ b o, h8.get? b = some o → (h8.push x).get? b = some o := fun x b o e => Heap.get?_push_of_some _ e
    have ln : ([cellText d0, cellText d1, cellText d2, cellText d3].flatMap codesI).length = 20 := by
      simp only [List.flatMap_cons, List.flatMap_nil, List.length_append, codesI_len k0, codesI_len k1, codesI_len k2, codesI_len k3, List.length_nil]
    refine start_walk2 (I9 := h8.objs.size) (C := C7) (D := D7) (oC := oC8) (o9 := { cls := .type "str_ascii_iterator", data := .fields #[.str (cellText d) v', .int 0 0] }) (ys := zs) (news := (I7, oI7) :: L5) (Walks.strAscii rfl h8.objs.size (cellText d) v') ⟨_, Heap.get?_push_size _ rfl, rfl, rfl⟩ (fun i h st => by obtain ⟨o, e, _⟩ := st; exact ⟨o, e⟩) (by rfl) (by rfl) hNs8 (F8.keeps (up8 _)) ?n1 ne7.2.2 ?n2 ?n3 ?n4 ?n5
      (fun j ys' news' m' => news' = (I7, oI7) :: L5 ∧ IntsAre ys' (([cellText d0, cellText d1, cellText d2, cellText d3].take i).flatMap codesI ++ (codesI (cellText d)).take j)) ⟨rfl, by simpa using e3⟩ ?n7 ?n8
    case n1 =>
      intro p hp
      rcases List.mem_cons.mp hp with rfl | hp
      · exact ⟨Heap.get?_push_size _ rfl, Ne.symm (Nat.ne_of_lt F8.ns.lt), MapIt.fresh_none F8 (Nat.le_refl _)⟩
      have z := N8 p (by
        simp only [List.mem_cons] at hp ⊢
        rcases hp with h | h | h | h
        · exact .inr (.inl h)
        · exact .inr (.inr (.inl h))
        · exact .inl h
        · exact .inr (.inr (.inr h)))
      exact ⟨up8 _ _ _ z.1, z.2⟩
    case n2 => exact Ne.symm (Nat.ne_of_lt (lt8 (C7, oC8) (.tail _ (.head _))))
    case n3 => exact Ne.symm (Nat.ne_of_lt (lt8 (D7, lst zs) (.tail _ (.tail _ (.head _)))))
    case n4 =>
      refine Off3.of fun p hp => ?_
      rcases List.mem_cons.mp hp with rfl | hp
      · exact ⟨Nat.ne_of_lt (lt8 _ (.head _)), ne7.1, ne7.2.1⟩
      · exact ⟨Nat.ne_of_lt (lt8 _ (.tail _ (.tail _ (.tail _ hp)))), (o3 p hp).2⟩
    case n5 =>
      have q1 := e3.length
      have q2 : (([cellText d0, cellText d1, cellText d2, cellText d3].take i).flatMap codesI).length ≤ 20 := by
        have q3 := congrArg List.length (congrArg (List.flatMap codesI) (List.take_append_drop i [cellText d0, cellText d1, cellText d2, cellText d3]))
        rw [List.flatMap_append, List.length_append, ln] at q3
        omega
      have q4 := ck.len
      rw [Array.length_toList] at q4
      rw [sizeLine_eq, q1, q4]
      omega
    case n8 =>
      rintro h13 tk13 oC13 m13 ys13 news13 ⟨rfl, r1⟩ hNs13 F13 N13 off13
      refine hRR _ h13 _ oC13 m13 ys13 L5 hNs13 F13 (fun p hp => N13 p ?_) (Off3.of fun p hp => o3 p hp) ⟨c, mD⟩ ⟨by omega, rfl, ?_⟩
      · simp only [List.mem_cons] at hp ⊢
        rcases hp with h | h | h | h
        · exact .inr (.inr (.inl h))
        · exact .inl h
        · exact .inr (.inl h)
        · exact .inr (.inr (.inr h))
      · rw [take_snoc hx, List.flatMap_append, List.flatMap_cons, List.flatMap_nil, List.append_nil]
        have q4 := ck.len
        rw [Array.length_toList] at q4
        have e9 : List.take (cellText d).cps.size (codesI (cellText d)) = codesI (cellText d) := List.take_of_length_le (by rw [codesI_len ck, q4]; exact Nat.le_refl _)
        rw [e9] at r1
        exact r1
    rintro j v9 ys9 news9 m9 h9 tk9 oC9 o9 Qy hj ⟨cc, uu, hc9, rfl⟩ ⟨rfl, r1⟩ hNs9 F9 N9 off9 hQy
    generalize hm9 : (fun y => if y = Str.ofString "sign" then some (Value.str ⟨#[cc]⟩ uu) else m9 y) = m10 at hNs9
    have hs10 : m10 (Str.ofString "sign") = some (Value.str ⟨#[cc]⟩ uu) := by rw [← hm9]; rfl
    have hnw9 := news_lt N9
    k_steps
    refine hQy _ h9 _ ((I7, oI7) :: L5) F9 N9 off9 ⟨rfl, ?_⟩
    have ec : (codesI (cellText d))[j]? = some (cc : Int) := by
      rw [codesI, List.getElem?_map, Array.getElem?_toList, hc9]
      rfl
    rw [take_snoc ec, ← List.append_assoc]
    exact r1.append (.cons _ _ .nil)
end Mine

end
section
open PySem PySem.W PyProof.Rows PySem.Calls PySem.Spec
open PyProof.Rows.LCg
set_option maxRecDepth 100000
namespace Mine
noncomputable abbrev tupO (its : Array Value) : Obj := { cls := .type "tuple", data := .seq its 0 }
section
variable {prog : Program} {w : World} {A : Around} {E : Value → Shared → Prop} {s : Shared} {h₀ : Heap} {L : Addr} {m : Str → Option Value} {env : Env}
theorem tuple_stay {ax I : Addr} {its : Array Value} : ∀ i (h h' : Heap) (o : Obj) (nw : List (Addr × Obj)), (h.IsTupleIter I ax i ∧ h.IsTuple ax its) → h.get? I = some o → h'.get? I = some o → (∀ b o, h₀.get? b = some o → h'.get? b = some o) → News h₀ L h' nw → (ax, tupO its) ∈ nw → (h'.IsTupleIter I ax i ∧ h'.IsTuple ax its) := by
  intro i h h' o nw st e e' _ N hm
  obtain ⟨o', q, r⟩ := st.1
  rw [e] at q
  cases q
  exact ⟨⟨o, e', r⟩, ⟨_, (N _ hm).1, rfl, _, rfl⟩⟩
/-- a name bound to a comprehension over a made tuple -/
theorem Assign_ListComp_Tup {elt iter : Expr} {x y : Str} {px py : Pos} {scope : Scope} {cl : List (Str × Addr)} {pos spos : Pos} {Q : Flow → Shared → Prop} (hLe : env.locals = L) (hh : A.handled = none)
    (hsw : swapsWith (.ListComp elt [⟨.Name x px, iter, [], 0⟩] scope pos) (some (.Name y py)) spos.line env = pure true)
    (hclos : closureFor scope env = pure cl) (hcell : ∀ z ∈ scope.names, z.2 ≠ .cell) (hkind : scope.kind = .function)
    (hnames : ∀ z ∈ scope.names, z.2 = .local → scope.names.lookup z.1 = some .local) (hx : scope.names.lookup x = some .local)
    (hy : env.kindOf y = some .local) (hp : (env.scope.kind == .class || (env.scope.kind == .module && env.locals != env.globals)) = false)
    (h : wpAny (model prog w) A (eval iter env) (fun xv s₁ => ∃ ax its news, xv = .ref ax ∧ Fr h₀ L s₁.heap m ∧ News h₀ L s₁.heap news ∧ (ax, tupO its) ∈ news ∧ its.size ≤ sizeLine ∧
      ∀ g, CompRest prog w A h₀ L m env elt x scope cl { s₁ with heap := g } (fun nw => (ax, tupO its) ∈ nw) (fun i v => its[i]? = some v) (FinA h₀ L m { s₁ with heap := g } y Q) its.size 0 [] news) E s)
    (hs : ∀ x, foldedSetIterable iter env x = pure x) :
    wpAny (model prog w) A (exec (.Assign [.Name y py] (.ListComp elt [⟨.Name x px, iter, [], 0⟩] scope pos) spos) env) Q E s := by
  subst hLe
  rw [exec_Assign_Name_used _ _ _ _ hsw]
  refine wpAny_bind (wpAny_standAt (wpAny_bind ?_))
  show wpAny _ A (do let _ ← comprehension (.ListComp elt [⟨.Name x px, iter, [], 0⟩] scope pos) scope env _ (newList []) false (eval iter env) (some (assign (.Name y py) env))) _ _ s
  refine wpAny_bind (wpAny_mono (wpAny_comprehension_free (use := some (assign (.Name y py) env)) (Q := fun _ s' => Q .next s') rfl hs hclos hkind hnames
    (wpAny_mono h (fun xv s₁ h₁ => ?_) fun _ _ e => e)) (fun _ s' hq => wpAny_pure (wpAny_pure hq)) fun _ _ e => e)
  obtain ⟨ax, its, news, rfl, F, N, hm, hsz, R⟩ := h₁
  have ht : s₁.heap.IsTuple ax its := ⟨_, (N _ hm).1, rfl, _, rfl⟩
  have hlt : ax < s₁.heap.objs.size := Heap.lt_size (N _ hm).1
  refine wpAny_pyIter_tuple ht ?_
  refine block_U (Walks.tuple hh s₁.heap.objs.size ax (Nat.ne_of_lt hlt) its) hsz (fun i h st => by obtain ⟨o, e, _⟩ := st.1; exact ⟨o, e⟩) tuple_stay hcell hkind hx ⟨⟨_, Heap.get?_push_size _ rfl, rfl, rfl⟩, ht.push _⟩ (fun b hb => ?_)
    (F.keeps fun _ _ e => Heap.get?_push_of_some _ e) (N.grown fun _ _ e => Heap.get?_push_of_some _ e) (Nat.ne_of_lt F.ns.lt) (next_is_new F) (fun p hp => Nat.ne_of_lt (Heap.lt_size (N p hp).1)) hm (R _) ?_
  · show b < (s₁.heap.push _).objs.size
    rw [Heap.size_push]
    rcases List.mem_cons.mp hb with rfl | hb
    · exact Nat.lt_succ_self _
    · rw [List.mem_singleton.mp hb]; exact Nat.lt_succ_of_lt hlt
  · intro D C h' tk m' ys news' F' N' o1 hn hC₀ hD₀ hCL hDL hCD offC fin
    show wpAny _ A (assign (.Name y py) env (.ref D)) _ _ _
    refine wpAny_assign_Name (wpAny_storeName_local hy F'.ns (fun h₂ hn₂ hs₂ => ?_) hp)
    have hL₀ : h₀.get? env.locals = none := Heap.get?_none_of_le F'.above
    have F₂ : Fr h₀ env.locals h₂ (fun z => if z = y then some (.ref D) else m z) := ⟨hn₂, fun b o e => hs₂.extBut b o (fun q => by rw [q, hL₀] at e; cases e) (F'.keep b o e), F'.above⟩
    refine ⟨m', hn.sameBut hs₂ hCL, fun h'' hs'' => fin D h'' _ (F₂.change hs'' hCL hC₀) (fun p hp => ?_) o1⟩
    have z : h₂.get? p.1 = some p.2 := hs₂.extBut _ _ (N' p hp).2.1 (N' p hp).1
    refine ⟨hs''.extBut _ _ ?_ z, (N' p hp).2⟩
    rcases List.mem_cons.mp hp with rfl | hp
    · exact Ne.symm hCD
    · exact offC p hp
end
end Mine

end
section
open PySem PySem.W PyProof.Rows PySem.Calls PySem.Spec
open PyProof.Rows.LCg
set_option maxRecDepth 100000
namespace Mine
section
variable {prog : Program} {w : World} {A : Around} {E : Value → Shared → Prop} {s : Shared} {h₀ : Heap} {L : Addr} {m : Str → Option Value} {env : Env}
/-- a comprehension over bytes -/
theorem ListComp_Bytes {elt iter : Expr} {x : Str} {px : Pos} {scope : Scope} {cl : List (Str × Addr)} {pos : Pos} {Q : Value → Shared → Prop} (hh : A.handled = none)
    (hclos : closureFor scope env = pure cl) (hcell : ∀ y ∈ scope.names, y.2 ≠ .cell) (hkind : scope.kind = .function)
    (hnames : ∀ y ∈ scope.names, y.2 = .local → scope.names.lookup y.1 = some .local) (hx : scope.names.lookup x = some .local)
    (h : wpAny (model prog w) A (eval iter env) (fun xv s₁ => ∃ bb t news, xv = .bytes bb t ∧ Fr h₀ L s₁.heap m ∧ News h₀ L s₁.heap news ∧ bb.size ≤ sizeLine ∧
      ∀ g, CompRest prog w A h₀ L m env elt x scope cl { s₁ with heap := g } (fun _ => True) (fun i v => ∃ c u, bb[i]? = some c ∧ v = .int (c.toNat : Int) u) (FinE h₀ L m { s₁ with heap := g } Q) bb.size 0 [] news) E s)
    (hs : ∀ x, foldedSetIterable iter env x = pure x) :
    wpAny (model prog w) A (eval (.ListComp elt [⟨.Name x px, iter, [], 0⟩] scope pos) env) Q E s := by
  rw [eval_ListComp]
  refine wpAny_comprehension_free (use := none) rfl hs hclos hkind hnames (wpAny_mono h (fun xv s₁ h₁ => ?_) fun _ _ e => e)
  obtain ⟨bb, t, news, rfl, F, N, hsz, R⟩ := h₁
  refine KBw.pyIter_bytes ?_
  refine block_U (KBw.walks hh s₁.heap.objs.size bb t) hsz (fun i h st => by obtain ⟨o, e, _⟩ := st; exact ⟨o, e⟩)
    (fun i h h' o nw st e e' _ _ _ => by obtain ⟨o', q, r⟩ := st; rw [e] at q; cases q; exact ⟨o, e', r⟩) hcell hkind hx ⟨_, Heap.get?_push_size _ rfl, rfl, rfl⟩ (fun b hb => ?_)
    (F.keeps fun _ _ e => Heap.get?_push_of_some _ e) (N.grown fun _ _ e => Heap.get?_push_of_some _ e) (Nat.ne_of_lt F.ns.lt) (next_is_new F) (fun p hp => Nat.ne_of_lt (Heap.lt_size (N p hp).1)) trivial (R _) ?_
  · rw [List.mem_singleton.mp hb]
    show s₁.heap.objs.size < (s₁.heap.push _).objs.size
    rw [Heap.size_push]; exact Nat.lt_succ_self _
  · intro D C h tk m' ys news' F' N' o1 hn hC₀ hD₀ hCL hDL hCD offC fin
    refine ⟨m', hn, fun h'' hs'' => fin D h'' tk (F'.change hs'' hCL hC₀) (fun p hp => ?_) o1⟩
    refine ⟨hs''.extBut _ _ ?_ (N' p hp).1, (N' p hp).2⟩
    rcases List.mem_cons.mp hp with rfl | hp
    · exact Ne.symm hCD
    · exact offC p hp
end
/-- the signs of some octets, one text each -/
noncomputable def signTexts (l : List UInt8) : List Str := l.map fun c => ⟨#[c.toNat]⟩
theorem join_signs (l : List UInt8) (h : l.length = 5) : Txt.join (Str.ofString "") (signTexts l) = ⟨(l.map fun c => c.toNat).toArray⟩ := by
  match l, h with
  | [a, b, c, d, e], _ => kernel_rfl
theorem halt_here {M : Model} {A : Around} {E : Value → Shared → Prop} {s : Shared} {t : Sem Value} {Q : Value → Shared → Prop} (h : Halt (wpAny M A t Q E s)) : wpAny M A t Q E s := h
end Mine
namespace Mine
section
variable {x0 x1 x2 x3 : Str} (h0 : (octets x0).length = 5) (h1 : (octets x1).length = 5) (h2 : (octets x2).length = 5) (h3 : (octets x3).length = 5)
include h0 h1 h2 h3
theorem picked_cell (i : Nat) (x : Str) (hx : [x0, x1, x2, x3][i]? = some x) : KBy.picked (tapeOf [x0, x1, x2, x3]) (some (5 * (i : Int))) (some (5 * (i : Int) + 5)) = (octets x).toArray := by
  obtain ⟨a0, a1, a2, a3, a4, ea⟩ := list5 h0
  obtain ⟨b0, b1, b2, b3, b4, eb⟩ := list5 h1
  obtain ⟨c0, c1, c2, c3, c4, ec⟩ := list5 h2
  obtain ⟨d0, d1, d2, d3, d4, ed⟩ := list5 h3
  match i, hx with
  | 0, hx => cases hx; simp only [tapeOf, List.flatMap_cons, List.flatMap_nil, ea, eb, ec, ed]; kernel_rfl
  | 1, hx => cases hx; simp only [tapeOf, List.flatMap_cons, List.flatMap_nil, ea, eb, ec, ed]; kernel_rfl
  | 2, hx => cases hx; simp only [tapeOf, List.flatMap_cons, List.flatMap_nil, ea, eb, ec, ed]; kernel_rfl
  | 3, hx => cases hx; simp only [tapeOf, List.flatMap_cons, List.flatMap_nil, ea, eb, ec, ed]; kernel_rfl
  | n + 4, hx => exact absurd hx (by simp)
end
theorem cell_text {x : Str} {n : Int} (h : CellOk x n) : (⟨((octets x).map fun c => c.toNat).toArray⟩ : Str) = x := by
  rw [octet_back h]
end Mine

end
local macro_rules | `(tactic| walk_at "none here") => `(tactic| skip)
theorem Join.rstch : True := by
  w_top off
  trivial
section
open PySem PySem.W PyProof.Rows PySem.Calls PySem.Spec
open PyProof.Rows.LCg
set_option maxRecDepth 100000
set_option maxHeartbeats 80000000
namespace Mine
local macro_rules | `(tactic| k_all) => `(tactic| exact ne_of_all_lt (by assumption))
local macro_rules | `(tactic| walk_at "eval ListComp") => `(tactic| refine halt_here ?_)
noncomputable def loopBody : Stmt → List Stmt
  | .For _ _ b _ _ => b
  | _ => []
noncomputable def turnBody : List Stmt := loopBody (lawSt 8)
noncomputable def turnSt (i : Nat) : Stmt := turnBody.getD i (.Pass default)
noncomputable abbrev kT (b : Str → Option Value) (turn cells told sums size : Option Value) : Str → Option Value :=
  fun y => if y = Str.ofString "size" then size else if y = Str.ofString "sums" then sums else if y = Str.ofString "told" then told else if y = Str.ofString "cells" then cells else if y = Str.ofString "turn" then turn else b y
theorem kT_turn (b : Str → Option Value) (o1 o2 o3 o4 o5 v : Option Value) (y : Str) : (if y = Str.ofString "turn" then v else kT b o1 o2 o3 o4 o5 y) = kT b v o2 o3 o4 o5 y := by
  by_cases h : y = Str.ofString "turn"
  · rw [if_pos h, h]; rfl
  · simp only [kT, if_neg h]
theorem kT_cells (b : Str → Option Value) (o1 o2 o3 o4 o5 v : Option Value) (y : Str) : (if y = Str.ofString "cells" then v else kT b o1 o2 o3 o4 o5 y) = kT b o1 v o3 o4 o5 y := by
  by_cases h : y = Str.ofString "cells"
  · rw [if_pos h, h]; rfl
  · simp only [kT, if_neg h]
theorem kT_told (b : Str → Option Value) (o1 o2 o3 o4 o5 v : Option Value) (y : Str) : (if y = Str.ofString "told" then v else kT b o1 o2 o3 o4 o5 y) = kT b o1 o2 v o4 o5 y := by
  by_cases h : y = Str.ofString "told"
  · rw [if_pos h, h]; rfl
  · simp only [kT, if_neg h]
theorem kT_sums (b : Str → Option Value) (o1 o2 o3 o4 o5 v : Option Value) (y : Str) : (if y = Str.ofString "sums" then v else kT b o1 o2 o3 o4 o5 y) = kT b o1 o2 o3 v o5 y := by
  by_cases h : y = Str.ofString "sums"
  · rw [if_pos h, h]; rfl
  · simp only [kT, if_neg h]
theorem kT_size (b : Str → Option Value) (o1 o2 o3 o4 o5 v : Option Value) (y : Str) : (if y = Str.ofString "size" then v else kT b o1 o2 o3 o4 o5 y) = kT b o1 o2 o3 o4 v y := by
  by_cases h : y = Str.ofString "size"
  · rw [if_pos h, h]; rfl
  · simp only [kT, if_neg h]
/-- the tuple of the four starts at hand -/
inductive LFour (h₀ : Heap) (L : Addr) (s : Shared) (m : Str → Option Value) (tail : List (Addr × Obj)) (v : Value) (s' : Shared) : Prop
  | mk (h2 : Heap) (tk2 : Nat) (ax : Addr) (t0 t1 t2 t3 : Tok) : v = .ref ax → s' = { s with heap := h2, toks := tk2 } → Fr h₀ L h2 m → News h₀ L h2 ((ax, tupO #[.int 0 t0, .int 5 t1, .int 10 t2, .int 15 t3]) :: tail) → (∀ p ∈ tail, p.1 < ax) → LFour h₀ L s m tail v s'
theorem law_cells (w : World) {h₀ : Heap} {mean : ExcName → Option Value} {mg mb : Str → Option Value} {L a I : Addr} {cd : Value} {base : Heap} {s : Shared} {oI oG oL oA oP oN oT oM : Obj} {aG aL aA aP aN : Addr} {Q : Flow → Shared → Prop}
    {b : Str → Option Value} {o1 o2 o3 o4 o5 : Option Value} {x0 x1 x2 x3 : Str} {n0 n1 n2 n3 : Int} {tt : Tok}
    (T : Top Mine.hd.view_39 (looseW Mine.hd.view_39 [Str.ofString "_norm_version"]) mean mg mb h₀) (X : (Mine.hd.heap_39 w.params).In h₀) (B : Below callerA base [] h₀)
    (F : Fr h₀ L s.heap (kT b o1 o2 o3 o4 o5))
    (N : News h₀ L s.heap [(I, oI), (aG, oG), (aL, oL), (aA, oA), (aP, oP), (aN, oM), (L + 1 + 1, oT), (L + 1, oN)])
    (hT : oT.data = .cell (some (.bytes (tapeOf [x0, x1, x2, x3]) tt)))
    (k0 : CellOk x0 n0) (k1 : CellOk x1 n1) (k2 : CellOk x2 n2) (k3 : CellOk x3 n3)
    (hk : ∀ h' tk' aC t0 t1 t2 t3 c, Fr h₀ L h' (kT b o1 (some (.ref aC)) o3 o4 o5) → News h₀ L h' ((aC, listO #[.str x0 t0, .str x1 t1, .str x2 t2, .str x3 t3] c) :: [(I, oI), (aG, oG), (aL, oL), (aA, oA), (aP, oP), (aN, oM), (L + 1 + 1, oT), (L + 1, oN)]) → Q .next { s with heap := h', toks := tk' }) :
    wpAny (lawM w) (lawA L a cd) (exec (turnSt 0) (lawEnv L a cd)) Q (fun _ _ => False) s := by
  revert X
  dsimp only [lawM]
  k_fill
  intro X
  dsimp only [turnSt, turnBody, loopBody, lawSt, lawBody, bodyOf, List.getD_cons_zero, List.getD_cons_succ, lawEnv, lawA, lawScope, scopeOf]
  show wpAny _ _ (exec (Stmt.Assign _ _ _) _) _ _ _
  have hnw := news_lt N
  refine Assign_ListComp_Tup (h₀ := h₀) (m := kT b o1 o2 o3 o4 o5) rfl rfl (by with_unfolding_all rfl) (by rfl) (by decide) (by rfl) (by decide) (by rfl) (by rfl) (by rfl) ?_ (by intro _; rfl)
  refine mid (LFour h₀ L s (kT b o1 o2 o3 o4 o5) [(I, oI), (aG, oG), (aL, oL), (aA, oA), (aP, oP), (aN, oM), (L + 1 + 1, oT), (L + 1, oN)]) (fun Q' hQ' => ?_) ?_
  · k_steps
    exact hQ' _ _ ⟨_, _, _, _, _, _, _, rfl, rfl, by assumption, by assumption, lt_of_allLt (by simp only [AllLt, and_true]; assumption)⟩
  rintro v s' ⟨h2, tk2, ax, t0, t1, t2, t3, rfl, rfl, F2, N2, lt2⟩
  refine ⟨ax, _, _, rfl, F2, N2, .head _, Nat.le_of_ble_eq_true rfl, fun g => ?_⟩
  have item : ∀ (i : Nat) (v : Value), #[Value.int 0 t0, .int 5 t1, .int 10 t2, .int 15 t3][i]? = some v → ∃ t, v = .int (5 * (i : Int)) t :=
    get4 (P := fun i v => ∃ t, v = .int (5 * (i : Int)) t) ⟨t0, rfl⟩ ⟨t1, rfl⟩ ⟨t2, rfl⟩ ⟨t3, rfl⟩
  clear F N hnw
  refine CompRest.ind 4 (fun i ys nw => StrsAre ys ([x0, x1, x2, x3].take i) ∧ nw = (ax, tupO #[.int 0 t0, .int 5 t1, .int 10 t2, .int 15 t3]) :: [(I, oI), (aG, oG), (aL, oL), (aA, oA), (aP, oP), (aN, oM), (L + 1 + 1, oT), (L + 1, oN)]) ?_ ?_ 4 0 _ _ rfl ⟨.nil, rfl⟩
  · rintro ys nw ⟨e1, rfl⟩
    intro D h5 tk5 F5 N5 off5
    obtain ⟨t0', t1', t2', t3', rfl⟩ := strs4 (show StrsAre ys [x0, x1, x2, x3] from e1)
    refine hk h5 tk5 D t0' t1' t2' t3' 4 (Fr_eq F5 fun y => kT_cells ..) fun p hp => N5 p ?_
    rcases List.mem_cons.mp hp with rfl | hp
    · exact .head _
    · exact .tail _ (.tail _ hp)
  rintro i ys nw hi ⟨e1, rfl⟩ v I9 oI9 C oC D m₂ h5 tk5 E' hv hNs hm F5 N5 off5 ne5
  obtain ⟨tv, rfl⟩ := item i v hv
  have hnw5 := news_lt N5
  obtain ⟨KS, hb, hKS⟩ : ∃ KS, KBw.bInts (tapeOf [x0, x1, x2, x3]) = KS ∧ KS.length = 20 := ⟨_, rfl, by rw [KBw.ints_length, tape_size (octets_len k0) (octets_len k1) (octets_len k2) (octets_len k3)]⟩
  k_steps
  show wpAny _ _ _ _ _ _
  refine ListComp_Bytes (h₀ := h₀) (L := L) (m := kT b o1 o2 o3 o4 o5) rfl (by rfl) (by decide) (by rfl) (by decide) (by rfl) ?_ (by intro _; rfl)
  refine mid (fun v s' => ∃ h6 tk6 t6, v = .bytes (KBy.picked (tapeOf [x0, x1, x2, x3]) (some (5 * (i : Int))) (some (5 * (i : Int) + 5))) t6 ∧ s' = { s with heap := h6, toks := tk6 } ∧ Fr h₀ L h6 (kT b o1 o2 o3 o4 o5) ∧ News h₀ L h6 ((I9, oI9) :: (C, oC) :: (D, lst ys) :: (ax, tupO #[.int 0 t0, .int 5 t1, .int 10 t2, .int 15 t3]) :: [(I, oI), (aG, oG), (aL, oL), (aA, oA), (aP, oP), (aN, oM), (L + 1 + 1, oT), (L + 1, oN)])) (fun Q' hQ' => ?_) ?_
  · k_steps
    exact hQ' _ _ ⟨_, _, _, rfl, rfl, by assumption, by assumption⟩
  rintro v' s' ⟨h6, tk6, t6, rfl, rfl, F6, N6⟩
  obtain ⟨x, hx, ck⟩ : ∃ x, [x0, x1, x2, x3][i]? = some x ∧ ∃ n, CellOk x n :=
    lt4 (P := fun i => ∃ x, [x0, x1, x2, x3][i]? = some x ∧ ∃ n, CellOk x n) ⟨x0, rfl, _, k0⟩ ⟨x1, rfl, _, k1⟩ ⟨x2, rfl, _, k2⟩ ⟨x3, rfl, _, k3⟩ i hi
  obtain ⟨nx, ck⟩ := ck
  have ol := octets_len ck
  refine ⟨_, _, _, rfl, F6, N6, ?_, fun g6 => ?_⟩
  · rw [picked_cell (octets_len k0) (octets_len k1) (octets_len k2) (octets_len k3) i x hx, List.size_toArray, ol]
    decide
  rw [picked_cell (octets_len k0) (octets_len k1) (octets_len k2) (octets_len k3) i x hx, List.size_toArray, ol]
  clear F5 N5
  generalize hL7 : [(I9, oI9), (C, oC), (D, lst ys), (ax, tupO #[.int 0 t0, .int 5 t1, .int 10 t2, .int 15 t3]), (I, oI), (aG, oG), (aL, oL), (aA, oA), (aP, oP), (aN, oM), (L + 1 + 1, oT), (L + 1, oN)] = L7 at N6
  refine CompRest.ind 5 (fun j zs nw => StrsAre zs ((signTexts (octets x)).take j) ∧ nw = L7) ?_ ?_ 5 0 _ _ rfl ⟨.nil, rfl⟩
  · rintro zs nw ⟨z1, z2⟩
    intro D8 h8 tk8 F8 N8 off8
    rw [z2, ← hL7] at N8 off8
    dsimp only
    clear F6 N6
    k_steps
    have z3 : StrsAre zs (signTexts (octets x)) := by
      rw [List.take_of_length_le (by rw [signTexts, List.length_map, ol]; exact Nat.le_refl _)] at z1
      exact z1
    have zl : ((signTexts (octets x)).map (·.length)).sum + (signTexts (octets x)).length * (Str.ofString "").length ≤ 16777216 := by
      obtain ⟨a0, a1, a2, a3, a4, ea⟩ := list5 ol
      rw [ea]
      exact Nat.le_trans (Nat.le_of_eq (show _ = 5 by kernel_rfl)) (by decide)
    refine join_list (News.isList N8 (.head _)) z3 zl ?_
    intro t8 k8
    rw [join_signs _ ol, cell_text ck]
    k_steps
    refine ⟨h8, _, _, rfl, F8, fun p hp => N8 p (.tail _ hp), off5, .head _, ?_, rfl⟩
    rw [take_snoc hx]
    exact e1.append' (.cons _ _ .nil)
  rintro j zs nw hj ⟨z1, z2⟩ v I8 oI8 C8 oC8 D8 m8 h8 tk8 E8 ⟨c8, u8, hc8, rfl⟩ hNs8 hm8 F8 N8 off8 ne8
  rw [z2] at N8 off8
  have hnw8 := news_lt N8
  refine hide fun Qt hQt => ?_
  clear F6 N6
  have hc9 : (0 : Int) ≤ (c8.toNat : Int) ∧ (c8.toNat : Int) < 256 := by
    have := c8.toNat_lt
    omega
  k_steps
  refine hQt _ _ ?_
  refine ⟨h8, _, L7, rfl, F8, N8, off8, trivial, ?_, rfl⟩
  have ej : (signTexts (octets x))[j]? = some ⟨#[c8.toNat]⟩ := by
    rw [signTexts, List.getElem?_map, ← List.getElem?_toArray, hc8]
    rfl
  rw [take_snoc ej]
  exact z1.append' (.cons _ _ .nil)
end Mine

end
local macro_rules | `(tactic| walk_at "none here") => `(tactic| skip)
local macro_rules | `(tactic| walk_at "none here") => `(tactic| skip)
theorem Join.rstci : True := by
  w_top off
  trivial
section
open PySem PySem.W PyProof.Rows PySem.Calls PySem.Spec
open PyProof.Rows.LCg
set_option maxRecDepth 100000
set_option maxHeartbeats 80000000
namespace Mine
local macro_rules | `(tactic| k_all) => `(tactic| exact ne_of_all_lt (by assumption))
local macro_rules | `(tactic| walk_at "call ref") => `(tactic| refine halt_here ?_)
local macro_rules | `(tactic| walk_at "eval ListComp") => `(tactic| refine halt_here ?_)
theorem law_told (w : World) {h₀ : Heap} {mean : ExcName → Option Value} {mg mb : Str → Option Value} {L a aC : Addr} {cd : Value} {base : Heap} {s : Shared} {rest : List (Addr × Obj)} {Q : Flow → Shared → Prop}
    {b : Str → Option Value} {o3 o4 o5 : Option Value} {x0 x1 x2 x3 : Str} {n0 n1 n2 n3 turn : Int} {tt t0 t1 t2 t3 : Tok} {c : Nat}
    (T : Top Mine.hd.view_39 (looseW Mine.hd.view_39 [Str.ofString "_norm_version"]) mean mg mb h₀) (X : (Mine.hd.heap_39 w.params).In h₀) (B : Below callerA base [] h₀)
    (F : Fr h₀ L s.heap (kT b (some (.int turn tt)) (some (.ref aC)) o3 o4 o5))
    (N : News h₀ L s.heap ((aC, listO #[.str x0 t0, .str x1 t1, .str x2 t2, .str x3 t3] c) :: rest))
    (k0 : CellOk x0 n0) (k1 : CellOk x1 n1) (k2 : CellOk x2 n2) (k3 : CellOk x3 n3) (ht : 1 ≤ turn ∧ turn ≤ 24)
    (hk : ∀ h' tk' aK u0 u1 u2 c', Fr h₀ L h' (kT b (some (.int turn tt)) (some (.ref aC)) (some (.ref aK)) o4 o5) → News h₀ L h' ((aK, listO #[.str (numText n0) u0, .str (numText n1) u1, .str (numText n2) u2] c') :: (aC, listO #[.str x0 t0, .str x1 t1, .str x2 t2, .str x3 t3] c) :: rest) →
      (∀ p ∈ (aC, listO #[.str x0 t0, .str x1 t1, .str x2 t2, .str x3 t3] c) :: rest, p.1 < aK) → Q .next { s with heap := h', toks := tk' }) :
    wpAny (lawM w) (lawA L a cd) (exec (turnSt 1) (lawEnv L a cd)) Q (fun _ _ => False) s := by
  revert X
  dsimp only [lawM]
  k_fill
  intro X
  dsimp only [turnSt, turnBody, loopBody, lawSt, lawBody, bodyOf, List.getD_cons_zero, List.getD_cons_succ, lawEnv, lawA, lawScope, scopeOf]
  show wpAny _ _ (exec (Stmt.Assign _ _ _) _) _ _ _
  have hnw := news_lt N
  k_steps
  show wpAny _ _ _ _ _ _
  refine' three_ctr w aC x0 x1 x2 x3 n0 n1 n2 n3 t0 t1 t2 t3 c turn tt _ k0 k1 k2 k3 ht _ _ _ _ _ _ _ _ _ _ _ _ _ _ _ _ _ _ _ _ _ _ B F X N T rfl (by decide) (by decide) ?_
  rintro v h' tk' own ⟨D, vs, c', rfl, rfl, hst, hlt⟩ F' N'
  obtain ⟨u0, u1, u2, rfl⟩ := strs3 hst
  k_steps
  rename (News h₀ L _ _) => N9
  rename (Fr h₀ L _ _) => F9
  exact hk _ _ D u0 u1 u2 c' (Fr_eq F9 fun y => kT_told ..) N9 hlt
end Mine

end
section
open PySem PySem.W PyProof.Rows PySem.Calls PySem.Spec PyProof.V
set_option maxRecDepth 100000
namespace Mine
theorem strs_canLay : ∀ ss : List Str, (∀ x ∈ ss, PySem.PyData.canLay0 (.str x) = true) → PySem.PyData.canLayAll0 (ss.map PySem.PyData.str) = true
  | [], _ => rfl
  | x :: r, h => by
    rw [List.map_cons]
    simp only [PySem.PyData.canLayAll0, h x (.head _), strs_canLay r fun y hy => h y (.tail _ hy), Bool.and_self]
theorem strs_depth : ∀ ss : List Str, PySem.PyData.depthAll (ss.map PySem.PyData.str) = 0
  | [] => rfl
  | _ :: r => by simp [PySem.PyData.depthAll, PySem.PyData.depth, strs_depth r]
theorem strs_shaped (ss : List Str) (h : ∀ x ∈ ss, PySem.PyData.canLay0 (.str x) = true) : SeqAt.shaped (.list (ss.map PySem.PyData.str)) = true := by
  simp [SeqAt.shaped, PySem.PyData.canLay0, PySem.PyData.depth, strs_canLay ss h, strs_depth]
theorem strs_sameAll : ∀ ss : List Str, PySem.Spec.sameAll (ss.map PySem.PyData.str) (ss.map PySem.PyData.str) = true
  | [] => by simp [PySem.Spec.sameAll]
  | a :: r => by simp only [List.map_cons, PySem.Spec.sameAll, PySem.Spec.same, strs_sameAll r]; simp
theorem strs_same (ss : List Str) : PySem.Spec.same (.list (ss.map PySem.PyData.str)) (.list (ss.map PySem.PyData.str)) = true := by
  simp only [PySem.Spec.same]; exact strs_sameAll ss
theorem strs_carried : ∀ {vs : List Value} {ss : List Str}, StrsAre vs ss → CarriedAll vs (ss.map PySem.PyData.str)
  | _, _, .nil => .nil
  | _, _, .cons _ t r => .cons (.str _ t) (strs_carried r)
/-- two lists of the same texts -/
theorem ne_strs {prog : Program} {w : World} {A : Around} {E : Value → Shared → Prop} {s : Shared} {a b : Addr} {xs ys : List Value} {ss : List Str} {Q : Value → Shared → Prop} (ha : s.heap.IsList a xs.toArray) (hb : s.heap.IsList b ys.toArray) (hi : StrsAre xs ss) (hj : StrsAre ys ss)
    (hok : ∀ x ∈ ss, PySem.PyData.canLay0 (.str x) = true) (hu : A.units + 64 < cLine) (h : Q (.bool false) s) : wpAny (model prog w) A (compareOp .NotEq (.ref a) (.ref b)) Q E s :=
  ne_dataH_same (reads_newData ha (strs_carried hi)) (reads_newData hb (strs_carried hj)) (strs_shaped _ hok) (strs_shaped _ hok) hu (SeqAt.noMix_of_shape (.list .str) rfl _ _ (list_map_has fun _ => rfl) (list_map_has fun _ => rfl)) (by rw [strs_same]; exact h)
theorem num_lay : ∀ n : Int, -99 ≤ n → n ≤ 99 → PySem.PyData.canLay0 (.str (numText n)) = true := by
  have h : ∀ k : Nat, k < 199 → PySem.PyData.canLay0 (.str (numText ((k : Int) - 99))) = true := by decide +kernel
  intro n h0 h1
  have := h (n + 99).toNat (by omega)
  rwa [show (((n + 99).toNat : Nat) : Int) - 99 = n from by omega] at this
end Mine

end
local macro_rules | `(tactic| walk_at "none here") => `(tactic| skip)
local macro_rules | `(tactic| walk_at "none here") => `(tactic| skip)
local macro_rules | `(tactic| walk_at "none here") => `(tactic| skip)
theorem Join.rstck : True := by
  w_top off
  trivial
section
open PySem PySem.W PyProof.Rows PySem.Calls PySem.Spec
open PyProof.Rows.LCg
set_option maxRecDepth 100000
set_option maxHeartbeats 80000000
namespace Mine
local macro_rules | `(tactic| k_all) => `(tactic| exact ne_of_all_lt (by assumption))
local macro_rules | `(tactic| walk_at "compareOp NotEq ref ref") => `(tactic| refine halt_here ?_)
local macro_rules | `(tactic| walk_at "eval ListComp") => `(tactic| refine halt_here ?_)
theorem num_text : ∀ n : Int, -99 ≤ n → n ≤ 99 → PySem.intText? (numText n) = some n := by
  have h : ∀ k : Nat, k < 199 → PySem.intText? (numText ((k : Int) - 99)) = some ((k : Int) - 99) := by decide +kernel
  intro n h0 h1
  have := h (n + 99).toNat (by omega)
  rwa [show (((n + 99).toNat : Nat) : Int) - 99 = n from by omega] at this
theorem law_check (w : World) {h₀ : Heap} {mean : ExcName → Option Value} {mg mb : Str → Option Value} {L a aC aK : Addr} {cd : Value} {base : Heap} {s : Shared} {oC : Obj} {rest : List (Addr × Obj)} {Q : Flow → Shared → Prop}
    {m : Str → Option Value} {n0 n1 n2 : Int} {t0 t1 t2 : Tok} {c : Nat}
    (T : Top Mine.hd.view_39 (looseW Mine.hd.view_39 [Str.ofString "_norm_version"]) mean mg mb h₀) (X : (Mine.hd.heap_39 w.params).In h₀) (B : Below callerA base [] h₀)
    {b : Str → Option Value} {o1 o2 o4 o5 : Option Value} (F : Fr h₀ L s.heap (kT b o1 o2 (some (.ref aK)) o4 o5))
    (N : News h₀ L s.heap ((aK, listO #[.str (numText n0) t0, .str (numText n1) t1, .str (numText n2) t2] c) :: (aC, oC) :: rest))
    (f0 : -99 ≤ n0 ∧ n0 ≤ 99) (f1 : -99 ≤ n1 ∧ n1 ≤ 99) (f2 : -99 ≤ n2 ∧ n2 ≤ 99)
    (hk : ∀ h' tk', Fr h₀ L h' (kT b o1 o2 (some (.ref aK)) o4 o5) → News h₀ L h' ((aK, listO #[.str (numText n0) t0, .str (numText n1) t1, .str (numText n2) t2] c) :: (aC, oC) :: rest) → Q .next { s with heap := h', toks := tk' }) :
    wpC (lawM w) (lawA L a cd) (exec (turnSt 2) (lawEnv L a cd)) Q (fun _ _ => False) s := by
  revert X
  dsimp only [lawM]
  k_fill
  intro X
  dsimp only [turnSt, turnBody, loopBody, lawSt, lawBody, bodyOf, List.getD_cons_zero, List.getD_cons_succ, lawEnv, lawA, lawScope, scopeOf]
  show wpC _ _ (exec (Stmt.If _ _ _ _) _) _ _ _
  have hnw := news_lt N
  have q0 := num_text n0 f0.1 f0.2
  have q1 := num_text n1 f1.1 f1.2
  have q2 := num_text n2 f2.1 f2.2
  have l0 := len_numText n0 f0.1 f0.2
  have l1 := len_numText n1 f1.1 f1.2
  have l2 := len_numText n2 f2.1 f2.2
  refine wpC_If (wpC_isTrue_Or ?_)
  refine wpAny_mono (Q := fun b s' => Halt (b = false ∧ ∃ tk, s' = { s with toks := tk })) ?_ ?_ (fun _ _ x => x)
  · k_steps
    exact ⟨by decide, _, rfl⟩
  rintro b s' ⟨rfl, tk1, rfl⟩
  rw [if_neg (by decide)]
  refine wpC_allTrue_Or (wpC_any ?_)
  k_steps
  show wpAny _ _ _ _ _ _
  refine LCg.ListComp_U F (by rfl) (by decide) (by rfl) (by decide) (by rfl) ?_
  refine wpAny_mono (Q := fun v s' => Halt (v = .ref aK ∧ ∃ tk, s' = { s with toks := tk })) ?_ ?_ (fun _ _ x => x)
  · k_steps
    exact ⟨rfl, _, rfl⟩
  rintro v s' ⟨rfl, tk2, rfl⟩
  refine LCg.CompSrc.ledger rfl F N (.head _) (Nat.le_of_ble_eq_true rfl) ?_
  intro g
  have item : ∀ (i : Nat) (v : Value), #[Value.str (numText n0) t0, .str (numText n1) t1, .str (numText n2) t2][i]? = some v → ∃ n t, v = .str (numText n) t ∧ [numText n0, numText n1, numText n2][i]? = some (numText n) ∧ (-99 ≤ n ∧ n ≤ 99) :=
    get3 (P := fun i v => ∃ n t, v = .str (numText n) t ∧ [numText n0, numText n1, numText n2][i]? = some (numText n) ∧ (-99 ≤ n ∧ n ≤ 99)) ⟨n0, t0, rfl, rfl, f0⟩ ⟨n1, t1, rfl, rfl, f1⟩ ⟨n2, t2, rfl, rfl, f2⟩
  refine CompRest.ind 3 (fun i ys nw => StrsAre ys ([numText n0, numText n1, numText n2].take i) ∧ nw = ((aK, listO #[.str (numText n0) t0, .str (numText n1) t1, .str (numText n2) t2] c) :: (aC, oC) :: rest)) ?_ ?_ 3 0 _ _ rfl ⟨.nil, rfl⟩
  · rintro ys nw ⟨e1, e2⟩
    intro D h5 tk5 F5 N5 off5
    rw [e2] at N5 off5
    clear F N
    obtain ⟨t0', t1', t2', rfl⟩ := strs3 (show StrsAre ys [numText n0, numText n1, numText n2] from e1)
    k_steps
    show wpAny _ _ _ _ _ _
    refine ne_strs (News.isList N5 (.head _)) (News.isList N5 (.tail _ (.head _))) (.cons _ _ (.cons _ _ (.cons _ _ .nil))) (.cons _ _ (.cons _ _ (.cons _ _ .nil))) (all3 (num_lay n0 f0.1 f0.2) (num_lay n1 f1.1 f1.2) (num_lay n2 f2.1 f2.2)) (Nat.le_of_ble_eq_true rfl) ?_
    k_steps
    refine wpC_allTrue_nil ?_
    rw [if_neg (by decide)]
    refine wpC_execs_nil ?_
    rename (Fr h₀ L h5 _) => F6
    exact hk _ _ F6 fun p hp => N5 p (.tail _ hp)
  rintro i ys nw hi ⟨e1, e2⟩ v I8 oI8 C8 oC8 D8 m8 h8 tk8 E8 hv hNs8 hm8 F8 N8 off8 ne8
  rw [e2] at N8 off8
  obtain ⟨n, t, rfl, hn, fn⟩ := item i v hv
  have qn := num_text n fn.1 fn.2
  have ln := len_numText n fn.1 fn.2
  have ln' : (numText n).length ≤ 640 := Nat.le_trans ln (by decide)
  clear F N q0 q1 q2 l0 l1 l2
  k_steps
  refine ⟨h8, _, _, rfl, F8, N8, off8, .inr ⟨_, .head _, rfl, _, rfl⟩, ?_, rfl⟩
  rw [take_snoc hn]
  exact e1.append' (.cons _ _ .nil)
end Mine

end
local macro_rules | `(tactic| walk_at "none here") => `(tactic| skip)
local macro_rules | `(tactic| walk_at "none here") => `(tactic| skip)
local macro_rules | `(tactic| walk_at "none here") => `(tactic| skip)
theorem Join.rstcl : True := by
  w_top off
  trivial
section
open PySem PySem.W PyProof.Rows PySem.Calls PySem.Spec
open PyProof.Rows.LCg
set_option maxRecDepth 100000
set_option maxHeartbeats 80000000
namespace Mine
local macro_rules | `(tactic| k_all) => `(tactic| exact ne_of_all_lt (by assumption))
local macro_rules | `(tactic| walk_at "compareOp NotEq ref ref") => `(tactic| refine halt_here ?_)
local macro_rules | `(tactic| walk_at "subscriptTail") => `(tactic| refine halt_here ?_)
local macro_rules | `(tactic| walk_at "subscriptTail List BinOp ref int") => `(tactic| refine halt_here ?_)
local macro_rules | `(tactic| walk_at "eval ListComp") => `(tactic| refine halt_here ?_)
theorem isTrue_And2 {M : Model} {A : Around} {E : Value → Shared → Prop} {s : Shared} {env : Env} {x y : Expr} {pos whole} {Q : Bool → Shared → Prop}
    (h : wpAny M A (isTrue x env (eval x env)) (fun b s₁ => if b then wpAny M A (isTrue y env (eval y env)) Q E s₁ else Q false s₁) E s) :
    wpAny M A (isTrue (.BoolOp .And [x, y] pos) env whole) Q E s := by
  show wpAny M A (do
    match BoolOp.And, ← isTrue x env (eval x env) with
    | .And, false => pure false
    | .Or, true => pure true
    | _, _ => allTrue .And [y] env) Q E s
  refine wpAny_bind (wpAny_mono h (fun b s₁ h₁ => ?_) fun _ _ x => x)
  cases b
  · exact wpAny_pure h₁
  · show wpAny M A (do
      match BoolOp.And, ← isTrue y env (eval y env) with
      | .And, false => pure false
      | .Or, true => pure true
      | _, _ => allTrue .And [] env) Q E s₁
    refine wpAny_bind (wpAny_mono h₁ (fun b s₂ h₂ => ?_) fun _ _ x => x)
    cases b
    · exact wpAny_pure h₂
    · exact wpAny_pure h₂
theorem pick_a {h₀ h : Heap} {L : Addr} {x c3 c2 c1 : Addr × Obj} {r : List (Addr × Obj)} (N : News h₀ L h (x :: c3 :: c2 :: c1 :: r)) : News h₀ L h (c1 :: r) := fun p hp => N p (.tail _ (.tail _ (.tail _ hp)))
theorem pick_b {h₀ h : Heap} {L : Addr} {x c3 c2 c1 : Addr × Obj} {r : List (Addr × Obj)} (N : News h₀ L h (x :: c3 :: c2 :: c1 :: r)) : News h₀ L h (c2 :: r) := fun p hp => N p (by
  rcases List.mem_cons.mp hp with rfl | hp
  · exact .tail _ (.tail _ (.head _))
  · exact .tail _ (.tail _ (.tail _ (.tail _ hp))))
theorem pick_c {h₀ h : Heap} {L : Addr} {x c3 c2 c1 : Addr × Obj} {r : List (Addr × Obj)} (N : News h₀ L h (x :: c3 :: c2 :: c1 :: r)) : News h₀ L h (c3 :: r) := fun p hp => N p (by
  rcases List.mem_cons.mp hp with rfl | hp
  · exact .tail _ (.head _)
  · exact .tail _ (.tail _ (.tail _ (.tail _ hp))))
/-- the list of the three places at hand -/
inductive LFirst (h₀ : Heap) (L : Addr) (s : Shared) (m : Str → Option Value) (tail : List (Addr × Obj)) (N0 N1 N2 N3 n0 n1 n2 : Int) (v : Value) (s' : Shared) : Prop
  | mk (h2 : Heap) (tk2 : Nat) (ax : Addr) (k0 k1 k2 : Int) (u0 u1 u2 : Tok) (c9 : Nat) : v = .ref ax → s' = { s with heap := h2, toks := tk2 } → Fr h₀ L h2 m → News h₀ L h2 ((ax, listO #[.int k0 u0, .int k1 u1, .int k2 u2] c9) :: tail) →
    (0 ≤ k0 ∧ k0 < 4) → (0 ≤ k1 ∧ k1 < 4) → (0 ≤ k2 ∧ k2 < 4) → [N0, N1, N2, N3].getD k0.toNat 0 = n0 → [N0, N1, N2, N3].getD k1.toNat 0 = n1 → [N0, N1, N2, N3].getD k2.toNat 0 = n2 → LFirst h₀ L s m tail N0 N1 N2 N3 n0 n1 n2 v s'
theorem law_first (w : World) {h₀ : Heap} {mean : ExcName → Option Value} {mg mb : Str → Option Value} {L a I aC aK : Addr} {cd : Value} {base : Heap} {s : Shared} {oI oG oL oA oP oN oT oC : Obj} {aG aL aA aP aN : Addr} {Q : Flow → Shared → Prop}
    {N0 N1 N2 N3 n0 n1 n2 turn : Int} {t0 t1 t2 w0 w1 w2 w3 tt : Tok} {c c4 : Nat}
    (T : Top Mine.hd.view_39 (looseW Mine.hd.view_39 [Str.ofString "_norm_version"]) mean mg mb h₀) (X : (Mine.hd.heap_39 w.params).In h₀) (B : Below callerA base [] h₀)
    {b : Str → Option Value} {o2 o4 o5 : Option Value} (F : Fr h₀ L s.heap (kT b (some (.int turn tt)) o2 (some (.ref aK)) o4 o5))
    (N : News h₀ L s.heap ((aK, listO #[.str (numText n0) t0, .str (numText n1) t1, .str (numText n2) t2] c) :: (aC, oC) :: [(I, oI), (aG, oG), (aL, oL), (aA, oA), (aP, oP), (aN, listO #[.int N0 w0, .int N1 w1, .int N2 w2, .int N3 w3] c4), (L + 1 + 1, oT), (L + 1, oN)]))
    (hdN : oN.data = .cell (some (.ref aN)))
    (f0 : -99 ≤ n0 ∧ n0 ≤ 99) (f1 : -99 ≤ n1 ∧ n1 ≤ 99) (f2 : -99 ≤ n2 ∧ n2 ≤ 99) (ht : 1 ≤ turn ∧ turn ≤ 24)
    (r1 : turn = 1 → n0 = N0 ∧ n1 = N1 ∧ n2 = N2) (r2 : turn = 2 → n0 = N1 ∧ n1 = N0 ∧ n2 = N2) (r3 : turn = 3 → n0 = N2 ∧ n1 = N0 ∧ n2 = N1)
    (hk : ∀ h' tk', Fr h₀ L h' (kT b (some (.int turn tt)) o2 (some (.ref aK)) o4 o5) → News h₀ L h' ((aK, listO #[.str (numText n0) t0, .str (numText n1) t1, .str (numText n2) t2] c) :: (aC, oC) :: [(I, oI), (aG, oG), (aL, oL), (aA, oA), (aP, oP), (aN, listO #[.int N0 w0, .int N1 w1, .int N2 w2, .int N3 w3] c4), (L + 1 + 1, oT), (L + 1, oN)]) → Q .next { s with heap := h', toks := tk' }) :
    wpAny (lawM w) (lawA L a cd) (exec (turnSt 3) (lawEnv L a cd)) Q (fun _ _ => False) s := by
  revert X
  dsimp only [lawM]
  k_fill
  intro X
  dsimp only [turnSt, turnBody, loopBody, lawSt, lawBody, bodyOf, List.getD_cons_zero, List.getD_cons_succ, lawEnv, lawA, lawScope, scopeOf]
  show wpAny _ _ (exec (Stmt.If _ _ _ _) _) _ _ _
  have hnw := news_lt N
  refine wpAny_If (isTrue_And2 ?_)
  refine mid (fun b s' => (b = decide (turn < 4) ∧ ∃ tk, s' = { s with toks := tk })) (fun Q' hQ' => ?_) ?_
  · k_steps
    exact hQ' _ _ ⟨rfl, _, rfl⟩
  rintro b' s' ⟨rfl, tk1, rfl⟩
  by_cases h4 : turn < 4
  · rw [decide_eq_true h4, if_pos rfl]
    have h3 : turn = 1 ∨ turn = 2 ∨ turn = 3 := by omega
    k_steps
    show wpAny _ _ _ _ _ _
    refine LCg.ListComp_U (cl := [(Str.ofString "numbers", L + 1)]) F (by rfl) (by decide) (by rfl) (by decide) (by rfl) ?_
    refine mid (LFirst h₀ L s (kT b (some (.int turn tt)) o2 (some (.ref aK)) o4 o5) ((aK, listO #[.str (numText n0) t0, .str (numText n1) t1, .str (numText n2) t2] c) :: (aC, oC) :: [(I, oI), (aG, oG), (aL, oL), (aA, oA), (aP, oP), (aN, listO #[.int N0 w0, .int N1 w1, .int N2 w2, .int N3 w3] c4), (L + 1 + 1, oT), (L + 1, oN)]) N0 N1 N2 N3 n0 n1 n2) (fun Q' hQ' => ?_) ?_
    · k_steps
      rename_i a1 _ _ a2 _ _ a3 _ _ aX h9 F9 N9 _
      show wpAny _ _ _ _ _ _
      have hlX : h9.IsList aX #[.ref a1, .ref a2, .ref a3] := News.isList N9 (.head _)
      rcases h3 with rfl | rfl | rfl
      · obtain ⟨q1, q2, q3⟩ := r1 rfl
        refine tail_any hlX.typeIs slot_list_getitem.lookup (wpAny_getItem_list hlX (by decide) (by decide) (x := .ref a1) rfl ?_) (by with_unfolding_all rfl)
        exact hQ' _ _ ⟨_, _, _, 0, 1, 2, _, _, _, _, rfl, rfl, F9, pick_a N9, by decide, by decide, by decide, q1.symm, q2.symm, q3.symm⟩
      · obtain ⟨q1, q2, q3⟩ := r2 rfl
        refine tail_any hlX.typeIs slot_list_getitem.lookup (wpAny_getItem_list hlX (by decide) (by decide) (x := .ref a2) rfl ?_) (by with_unfolding_all rfl)
        exact hQ' _ _ ⟨_, _, _, 1, 0, 2, _, _, _, _, rfl, rfl, F9, pick_b N9, by decide, by decide, by decide, q1.symm, q2.symm, q3.symm⟩
      · obtain ⟨q1, q2, q3⟩ := r3 rfl
        refine tail_any hlX.typeIs slot_list_getitem.lookup (wpAny_getItem_list hlX (by decide) (by decide) (x := .ref a3) rfl ?_) (by with_unfolding_all rfl)
        exact hQ' _ _ ⟨_, _, _, 2, 0, 1, _, _, _, _, rfl, rfl, F9, pick_c N9, by decide, by decide, by decide, q1.symm, q2.symm, q3.symm⟩
    rintro v s' ⟨h2, tk2, ax, k0, k1, k2, u0, u1, u2, c9, rfl, rfl, F2, NN2, g0, g1, g2, e0, e1, e2⟩
    clear F N
    refine LCg.CompSrc.ledger rfl F2 NN2 (.head _) (Nat.le_of_ble_eq_true rfl) ?_
    intro g
    have item : ∀ (i : Nat) (v : Value), #[Value.int k0 u0, .int k1 u1, .int k2 u2][i]? = some v → ∃ k t n, v = .int k t ∧ (0 ≤ k ∧ k < 4) ∧ [N0, N1, N2, N3].getD k.toNat 0 = n ∧ [numText n0, numText n1, numText n2][i]? = some (numText n) ∧ (-99 ≤ n ∧ n ≤ 99) :=
      get3 (P := fun i v => ∃ k t n, v = .int k t ∧ (0 ≤ k ∧ k < 4) ∧ [N0, N1, N2, N3].getD k.toNat 0 = n ∧ [numText n0, numText n1, numText n2][i]? = some (numText n) ∧ (-99 ≤ n ∧ n ≤ 99))
        ⟨k0, u0, n0, rfl, g0, e0, rfl, f0⟩ ⟨k1, u1, n1, rfl, g1, e1, rfl, f1⟩ ⟨k2, u2, n2, rfl, g2, e2, rfl, f2⟩
    refine CompRest.ind 3 (fun i ys nw => StrsAre ys ([numText n0, numText n1, numText n2].take i) ∧ nw = (ax, listO #[.int k0 u0, .int k1 u1, .int k2 u2] c9) :: ((aK, listO #[.str (numText n0) t0, .str (numText n1) t1, .str (numText n2) t2] c) :: (aC, oC) :: [(I, oI), (aG, oG), (aL, oL), (aA, oA), (aP, oP), (aN, listO #[.int N0 w0, .int N1 w1, .int N2 w2, .int N3 w3] c4), (L + 1 + 1, oT), (L + 1, oN)])) ?_ ?_ 3 0 _ _ rfl ⟨.nil, rfl⟩
    · rintro ys nw ⟨z1, z2⟩
      intro D h5 tk5 F5 N5 off5
      rw [z2] at N5 off5
      clear F2 NN2
      obtain ⟨t0', t1', t2', rfl⟩ := strs3 (show StrsAre ys [numText n0, numText n1, numText n2] from z1)
      refine ne_strs (News.isList N5 (.tail _ (.tail _ (.head _)))) (News.isList N5 (.head _)) (.cons _ _ (.cons _ _ (.cons _ _ .nil))) (.cons _ _ (.cons _ _ (.cons _ _ .nil))) (all3 (num_lay n0 f0.1 f0.2) (num_lay n1 f1.1 f1.2) (num_lay n2 f2.1 f2.2)) (Nat.le_of_ble_eq_true rfl) ?_
      k_steps
      exact hk _ _ (by assumption) fun p hp => N5 p (.tail _ (.tail _ hp))
    rintro i ys nw hi ⟨z1, z2⟩ v I8 oI8 C8 oC8 D8 m8 h8 tk8 E8 hv hNs8 hm8 F8 N8 off8 ne8
    rw [z2] at N8 off8
    obtain ⟨k, t, n, rfl, gk, en, hn, fn⟩ := item i v hv
    have hb : -99 ≤ [N0, N1, N2, N3].getD k.toNat 0 ∧ [N0, N1, N2, N3].getD k.toNat 0 ≤ 99 := by rw [en]; exact fn
    clear F2 NN2 e0 e1 e2 r1 r2 r3
    k_steps
    refine ⟨h8, _, _, rfl, F8, N8, off8, .inr ⟨_, .head _, rfl, _, rfl⟩, ?_, rfl⟩
    rw [take_snoc hn, en]
    exact z1.append' (.cons _ _ .nil)
  · rw [decide_eq_false h4, if_neg (by decide), if_neg (by decide)]
    exact wpAny_execs_nil (hk _ _ F N)
end Mine

end
local macro_rules | `(tactic| walk_at "none here") => `(tactic| skip)
local macro_rules | `(tactic| walk_at "none here") => `(tactic| skip)
local macro_rules | `(tactic| walk_at "none here") => `(tactic| skip)
local macro_rules | `(tactic| walk_at "none here") => `(tactic| skip)
local macro_rules | `(tactic| walk_at "none here") => `(tactic| skip)
theorem Join.rstcm : True := by
  w_top off
  trivial
section
open PySem PySem.W PyProof.Rows PySem.Calls PySem.Spec
open PyProof.Rows.LCg
set_option maxRecDepth 100000
set_option maxHeartbeats 80000000
namespace Mine
local macro_rules | `(tactic| k_all) => `(tactic| exact ne_of_all_lt (by assumption))
theorem skip2 {h₀ h : Heap} {L : Addr} {a b : Addr × Obj} {r : List (Addr × Obj)} (N : News h₀ L h (a :: b :: r)) : News h₀ L h (a :: r) := fun p hp => N p (by
  rcases List.mem_cons.mp hp with rfl | hp
  · exact .head _
  · exact .tail _ (.tail _ hp))
theorem law_sums (w : World) {h₀ : Heap} {mean : ExcName → Option Value} {mg mb : Str → Option Value} {L a I aC aK : Addr} {cd : Value} {base : Heap} {s : Shared} {oI oG oL oA oP oN oT oC : Obj} {aG aL aA aP aN : Addr} {Q : Flow → Shared → Prop}
    {N0 N1 N2 N3 n0 n1 n2 : Int} {t0 t1 t2 w0 w1 w2 w3 : Tok} {c c4 : Nat}
    (T : Top Mine.hd.view_39 (looseW Mine.hd.view_39 [Str.ofString "_norm_version"]) mean mg mb h₀) (X : (Mine.hd.heap_39 w.params).In h₀) (B : Below callerA base [] h₀)
    {b : Str → Option Value} {o1 o2 o4 o5 : Option Value} (F : Fr h₀ L s.heap (kT b o1 o2 (some (.ref aK)) o4 o5))
    (N : News h₀ L s.heap ((aK, listO #[.str (numText n0) t0, .str (numText n1) t1, .str (numText n2) t2] c) :: (aC, oC) :: [(I, oI), (aG, oG), (aL, oL), (aA, oA), (aP, oP), (aN, listO #[.int N0 w0, .int N1 w1, .int N2 w2, .int N3 w3] c4), (L + 1 + 1, oT), (L + 1, oN)]))
    (hdN : oN.data = .cell (some (.ref aN)))
    (f0 : -99 ≤ n0 ∧ n0 ≤ 99) (f1 : -99 ≤ n1 ∧ n1 ≤ 99) (f2 : -99 ≤ n2 ∧ n2 ≤ 99)
    (hk : ∀ h' tk' aU u0 u1 u2 u3 u4, Fr h₀ L h' (kT b o1 o2 (some (.ref aK)) (some (.ref aU)) o5) → News h₀ L h' ((aU, listO #[.int 0 u0, .int n0 u1, .int (n0 + n1) u2, .int (n0 + n1 + n2) u3, .int (N0 + (N1 + (N2 + (N3 + 0)))) u4] 0) :: (aC, oC) :: [(I, oI), (aG, oG), (aL, oL), (aA, oA), (aP, oP), (aN, listO #[.int N0 w0, .int N1 w1, .int N2 w2, .int N3 w3] c4), (L + 1 + 1, oT), (L + 1, oN)]) → (∀ p ∈ [(I, oI), (aG, oG), (aL, oL), (aA, oA), (aP, oP), (aN, listO #[.int N0 w0, .int N1 w1, .int N2 w2, .int N3 w3] c4), (L + 1 + 1, oT), (L + 1, oN)], p.1 < aU) → Q .next { s with heap := h', toks := tk' }) :
    wpAny (lawM w) (lawA L a cd) (exec (turnSt 4) (lawEnv L a cd)) Q (fun _ _ => False) s := by
  revert X
  dsimp only [lawM]
  k_fill
  intro X
  dsimp only [turnSt, turnBody, loopBody, lawSt, lawBody, bodyOf, List.getD_cons_zero, List.getD_cons_succ, lawEnv, lawA, lawScope, scopeOf]
  show wpAny _ _ (exec (Stmt.Assign _ _ _) _) _ _ _
  have hnw := news_lt N
  have q0 := num_text n0 f0.1 f0.2
  have q1 := num_text n1 f1.1 f1.2
  have q2 := num_text n2 f2.1 f2.2
  have l0 : (numText n0).length ≤ 640 := Nat.le_trans (len_numText n0 f0.1 f0.2) (by decide)
  have l1 : (numText n1).length ≤ 640 := Nat.le_trans (len_numText n1 f1.1 f1.2) (by decide)
  have l2 : (numText n2).length ≤ 640 := Nat.le_trans (len_numText n2 f2.1 f2.2) (by decide)
  k_steps
  rename (News h₀ L _ _) => N9
  rename (Fr h₀ L _ _) => F9
  rename (_ ∧ _) => l9
  exact hk _ _ _ _ _ _ _ _ (Fr_eq F9 fun y => kT_sums ..) (skip2 N9) (lt_of_allLt (by simp only [AllLt, and_true]; exact l9.2.2))
end Mine

end
local macro_rules | `(tactic| walk_at "none here") => `(tactic| skip)
theorem Join.rstcn : True := by
  w_top off
  trivial
section
open PySem PySem.W PyProof.Rows PySem.Calls PySem.Spec
open PyProof.Rows.LCg
set_option maxRecDepth 100000
set_option maxHeartbeats 80000000
namespace Mine
local macro_rules | `(tactic| k_all) => `(tactic| exact ne_of_all_lt (by assumption))
local macro_rules | `(tactic| walk_at "call ref") => `(tactic| refine halt_here ?_)
local macro_rules | `(tactic| walk_at "compareOp NotEq str str") => `(tactic| refine halt_here ?_)
theorem law_sixth (w : World) {h₀ : Heap} {mean : ExcName → Option Value} {mg mb : Str → Option Value} {L a aC aU : Addr} {cd : Value} {base : Heap} {s : Shared} {rest : List (Addr × Obj)} {Q : Flow → Shared → Prop}
    {x0 x1 x2 x3 : Str} {n0 n1 n2 n3 z1 z2 z3 z4 turn : Int} {t0 t1 t2 t3 u0 u1 u2 u3 u4 tt : Tok} {c c5 : Nat}
    (T : Top Mine.hd.view_39 (looseW Mine.hd.view_39 [Str.ofString "_norm_version"]) mean mg mb h₀) (X : (Mine.hd.heap_39 w.params).In h₀) (B : Below callerA base [] h₀)
    {b : Str → Option Value} {o3 o5 : Option Value} (F : Fr h₀ L s.heap (kT b (some (.int turn tt)) (some (.ref aC)) o3 (some (.ref aU)) o5))
    (N : News h₀ L s.heap ((aU, listO #[.int 0 u0, .int z1 u1, .int z2 u2, .int z3 u3, .int z4 u4] c5) :: (aC, listO #[.str x0 t0, .str x1 t1, .str x2 t2, .str x3 t3] c) :: rest))
    (k0 : CellOk x0 n0) (k1 : CellOk x1 n1) (k2 : CellOk x2 n2) (k3 : CellOk x3 n3) (hz : z4 - z3 = n3) (ht : 1 ≤ turn ∧ turn ≤ 24)
    (hk : ∀ h' tk', Fr h₀ L h' (kT b (some (.int turn tt)) (some (.ref aC)) o3 (some (.ref aU)) o5) → News h₀ L h' ((aU, listO #[.int 0 u0, .int z1 u1, .int z2 u2, .int z3 u3, .int z4 u4] c5) :: (aC, listO #[.str x0 t0, .str x1 t1, .str x2 t2, .str x3 t3] c) :: rest) → Q .next { s with heap := h', toks := tk' }) :
    wpAny (lawM w) (lawA L a cd) (exec (turnSt 5) (lawEnv L a cd)) Q (fun _ _ => False) s := by
  revert X
  dsimp only [lawM]
  k_fill
  intro X
  dsimp only [turnSt, turnBody, loopBody, lawSt, lawBody, bodyOf, List.getD_cons_zero, List.getD_cons_succ, lawEnv, lawA, lawScope, scopeOf]
  show wpAny _ _ (exec (Stmt.If _ _ _ _) _) _ _ _
  have hnw := news_lt N
  refine wpAny_If ?_
  refine wpAny_mono (Q := fun b s' => Halt (b = decide (turn.fmod 6 = 0) ∧ ∃ tk, s' = { s with toks := tk })) ?_ ?_ (fun _ _ x => x)
  · k_steps
    exact ⟨by rw [Bool.eq_iff_iff]; simp, _, rfl⟩
  rintro b' s' ⟨rfl, tk1, rfl⟩
  by_cases h6 : turn.fmod 6 = 0
  · rw [decide_eq_true h6, if_pos rfl]
    have y1 : x1.length ≤ 5 := Nat.le_of_eq (by rw [← k1.len, Array.length_toList]; rfl)
    have y2 : x2.length ≤ 5 := Nat.le_of_eq (by rw [← k2.len, Array.length_toList]; rfl)
    have y3 : x3.length ≤ 5 := Nat.le_of_eq (by rw [← k3.len, Array.length_toList]; rfl)
    have df : ∀ {x : Str} {n : Int}, CellOk x n → 46 ∉ x.cps.toList := fun h hm => (h.sig 46 hm).2 rfl
    have fz : -99 ≤ z4 - z3 ∧ z4 - z3 ≤ 99 := by rw [hz]; exact k3.fit
    refine wpAny_execs_cons (wpAny_If ?_)
    k_steps
    show wpAny _ _ _ _ _ _
    have hT : Texts (Txt.split x3 (Str.ofString ".")) [n3] := by
      have e : Txt.split x3 (Str.ofString ".") = [x3] := by
        have := split_join [x3] (by simp) (fun p hp => by rw [List.mem_singleton.mp hp]; exact df k3)
        exact this
      rw [e]
      exact ⟨by rw [List.map_cons, List.map_nil, k3.num]; rfl, fun t ht => by rw [List.mem_singleton.mp ht]; exact Nat.le_trans y3 (by decide), fun n hn => by rw [List.mem_singleton.mp hn]; exact k3.fit⟩
    refine' norm1_ctr w x3 _ [n3] _ (Nat.le_trans y3 (by decide)) hT _ _ _ _ _ _ _ _ _ _ _ _ _ _ _ _ _ _ _ _ _ _ B F X ?kN T rfl (by decide) (by decide) ?_
    case kN => assumption
    rintro v9 h9 tk9 own9 ⟨t9, rfl, rfl⟩ F9 N9
    simp only [List.nil_append] at N9
    have fit3 := k3.fit
    k_steps
    have ez : ([0, z1, z2, z3, z4].getD (Int.toNat 4) 0 - [0, z1, z2, z3, z4].getD (Int.toNat 3) 0) = n3 := hz
    rw [ez]
    k_steps
    show wpAny _ _ _ _ _ _
    have ej : (Txt.join (Str.ofString ".") (List.take 3 (List.map numText [n3])) != numText n3) = false := by
      rw [show Txt.join (Str.ofString ".") (List.take 3 (List.map numText [n3])) = numText n3 from rfl]
      simp
    refine PyProof.Rows.ne_str ?_
    rw [ej]
    refine wpAny_truthy_bool ?_
    rw [if_neg (by decide)]
    refine wpAny_execs_nil ?_
    dsimp only
    refine wpAny_execs_cons (wpAny_If ?_)
    k_steps
    show wpAny _ _ _ _ _ _
    have sp3 := split_join [x1, x2, x3] (by simp) (all3 (df k1) (df k2) (df k3))
    have hT3 : Texts (Txt.split (Txt.join (Str.ofString ".") [x1, x2, x3]) (Str.ofString ".")) [n1, n2, n3] := by
      rw [sp3]
      exact ⟨by simp only [List.map_cons, List.map_nil, k1.num, k2.num, k3.num], all3 (Nat.le_trans y1 (by decide)) (Nat.le_trans y2 (by decide)) (Nat.le_trans y3 (by decide)), all3 k1.fit k2.fit k3.fit⟩
    refine' normx_ctr w _ _ _ [n1, n2, n3] _ (len_join3 x1 x2 x3 y1 y2 y3) hT3 rfl Mine.hd.view_39 _ _ _ _ _ _ _ _ _ _ _ _ _ _ _ _ _ ?xF X ?xN T rfl (by decide) (by decide) ?_
    case xF => assumption
    case xN => assumption
    rintro v8 h8 tk8 own8 ⟨t8, rfl, rfl⟩ F8 N8
    simp only [List.nil_append] at N8
    rw [sp3]
    k_steps
    show wpAny _ _ _ _ _ _
    refine PyProof.Rows.ne_str ?_
    rw [show (Txt.join (Str.ofString ".") [x1, x2, x3] != Txt.join (Str.ofString ".") [x1, x2, x3]) = false by simp]
    refine wpAny_truthy_bool ?_
    rw [if_neg (by decide)]
    refine wpAny_execs_nil ?_
    dsimp only
    refine wpAny_execs_nil ?_
    rename (News h₀ L _ _) => N7
    rename (Fr h₀ L _ _) => F7
    exact hk _ _ F7 fun p hp => N7 p (.tail _ (.tail _ hp))
  · rw [decide_eq_false h6, if_neg (by decide)]
    exact wpAny_execs_nil (hk _ _ F N)
end Mine

end
section
open PySem PySem.W PyProof.Rows PySem.Calls PySem.Spec PyProof.V
set_option maxRecDepth 100000
namespace Mine
theorem int_weight (n : Int) (h : n.natAbs < 1024) : PySem.PyData.weight (.int n) ≤ 10 := by
  show (if n == 0 then 0 else n.natAbs.log2 + 1) ≤ 10
  split
  · exact Nat.zero_le _
  · rename_i hn
    have h0 : n.natAbs ≠ 0 := by
      intro q
      apply hn
      rw [beq_iff_eq]
      omega
    have := (Nat.log2_lt h0 (k := 10)).mpr h
    omega
theorem ints_weight : ∀ ns : List Int, (∀ n ∈ ns, n.natAbs < 1024) → PySem.PyData.weightAll (ns.map PySem.PyData.int) ≤ 11 * ns.length
  | [], _ => Nat.le_refl _
  | n :: r, h => by
    have h1 := int_weight n (h n (.head _))
    have h2 := ints_weight r fun m hm => h m (.tail _ hm)
    show PySem.PyData.weight (.int n) + 1 + PySem.PyData.weightAll (r.map PySem.PyData.int) ≤ 11 * (r.length + 1)
    omega
theorem ints_lay (ns : List Int) (h : ∀ n ∈ ns, n.natAbs < 1024) (hl : ns.length ≤ 100) : PySem.PyData.layable0 (.list (ns.map .int)) = true := by
  have h1 : PySem.PyData.canLay0 (.list (ns.map PySem.PyData.int)) = true := by
    show PySem.PyData.canLayAll0 (ns.map PySem.PyData.int) = true
    exact ke_canLayAll0 ns
  have h2 : PySem.PyData.depth (.list (ns.map PySem.PyData.int)) ≤ 64 := by
    have := ke_depthAll ns
    simp only [PySem.PyData.depth, this]
    decide
  have h3 : PySem.PyData.weight (.list (ns.map PySem.PyData.int)) ≤ 2 ^ 20 := by
    have := ints_weight ns h
    show PySem.PyData.weightAll (ns.map PySem.PyData.int) ≤ 2 ^ 20
    omega
  unfold PySem.PyData.layable0
  rw [h1, decide_eq_true h2, decide_eq_true h3]
  rfl
end Mine

end
local macro_rules | `(tactic| walk_at "none here") => `(tactic| skip)
local macro_rules | `(tactic| walk_at "none here") => `(tactic| skip)
local macro_rules | `(tactic| walk_at "none here") => `(tactic| skip)
theorem Join.rstcp : True := by
  w_top off
  trivial
section
open PySem PySem.W PyProof.Rows PySem.Calls PySem.Spec
open PyProof.Rows.LCg
set_option maxRecDepth 100000
set_option maxHeartbeats 80000000
namespace Mine
local macro_rules | `(tactic| k_all) => `(tactic| exact ne_of_all_lt (by assumption))
local macro_rules | `(tactic| walk_at "call builtin:list.append") => `(tactic| refine halt_here ?_)
noncomputable abbrev bL (aS aD aG aL aA aP : Addr) (st : Value) : Str → Option Value :=
  fun y => if y = Str.ofString "places" then some (.ref aP) else if y = Str.ofString "above" then some (.ref aA) else if y = Str.ofString "least" then some (.ref aL) else if y = Str.ofString "greatest" then some (.ref aG) else if y = Str.ofString "start" then some st else if y = Str.ofString "drawn" then some (.ref aD) else if y = Str.ofString "script" then some (.ref aS) else none
theorem append_led {prog : Program} {w : World} {A : Around} {E : Value → Shared → Prop} {s : Shared} {h₀ : Heap} {L D : Addr} {m : Str → Option Value} {ys : List Value} {n : Nat} {pre post : List (Addr × Obj)} {v : Value} {Q : Value → Shared → Prop}
    (F : Fr h₀ L s.heap m) (N : News h₀ L s.heap (pre ++ (D, listO ys.toArray n) :: post)) (hpre : ∀ p ∈ pre, p.1 ≠ D) (hpost : ∀ p ∈ post, p.1 ≠ D) (hg : ys.length ≤ 30)
    (h : ∀ h', Fr h₀ L h' m → News h₀ L h' (pre ++ (D, listO (ys ++ [v]).toArray (n + 1)) :: post) → Q .none { s with heap := h' }) : wpAny (model prog w) A (call (.builtin "list.append") [.ref D, v]) Q E s := by
  have z := N (D, listO ys.toArray n) (List.mem_append_right _ (.head _))
  refine append_at (hsz := by show ys.toArray.size ≤ sizeLine; rw [List.size_toArray, sizeLine_eq]; omega) z.1 fun h' hs hD => ?_
  have up : ∀ c x, c ≠ D → s.heap.get? c = some x → h'.get? c = some x := fun c x hc e => hs.extBut c x hc e
  rw [List.push_toArray] at hD
  exact h h' (fr_put0 F z.2.1 z.2.2 up) (news_put N hD up hpre hpost)
theorem most_one {z1 z2 z3 z4 g g' : Int} (h : g = 0 ∨ g = z1 ∨ g = z2 ∨ g = z3 ∨ g = z4) (h' : 0 ≤ g' ∧ z1 ≤ g' ∧ z2 ≤ g' ∧ z3 ≤ g' ∧ z4 ≤ g') : g ≤ g' := by
  rcases h with h | h | h | h | h <;> rw [h]
  · exact h'.1
  · exact h'.2.1
  · exact h'.2.2.1
  · exact h'.2.2.2.1
  · exact h'.2.2.2.2
theorem law_lists (w : World) {h₀ : Heap} {mean : ExcName → Option Value} {mg mb : Str → Option Value} {L a I aU : Addr} {cd : Value} {base : Heap} {s : Shared} {oI oN oT oM : Obj} {aS aD aG aL aA aP aN : Addr} {st : Value} {Q : Flow → Shared → Prop}
    {z1 z2 z3 z4 : Int} {u0 u1 u2 u3 u4 : Tok} {c5 : Nat} {gv lv av pv : List Value} {gc lc ac pc : Nat}
    (T : Top Mine.hd.view_39 (looseW Mine.hd.view_39 [Str.ofString "_norm_version"]) mean mg mb h₀) (X : (Mine.hd.heap_39 w.params).In h₀) (B : Below callerA base [] h₀)
    {o1 o2 o3 o5 : Option Value} (F : Fr h₀ L s.heap (kT (bL aS aD aG aL aA aP st) o1 o2 o3 (some (.ref aU)) o5))
    (N : News h₀ L s.heap ((aU, listO #[.int 0 u0, .int z1 u1, .int z2 u2, .int z3 u3, .int z4 u4] c5) :: [(I, oI), (aG, listO (List.toArray gv) gc), (aL, listO (List.toArray lv) lc), (aA, listO (List.toArray av) ac), (aP, listO (List.toArray pv) pc), (aN, oM), (L + 1 + 1, oT), (L + 1, oN)])) (hg : gv.length ≤ 30) (hl : lv.length ≤ 30) (ha : av.length ≤ 30) (hp : pv.length ≤ 30)
    (neU : aU ≠ aG ∧ aU ≠ aL ∧ aU ≠ aA ∧ aU ≠ aP) (neI : I ≠ aG ∧ I ≠ aL ∧ I ≠ aA ∧ I ≠ aP) (neN : aN ≠ aG ∧ aN ≠ aL ∧ aN ≠ aA ∧ aN ≠ aP) (neT : L + 1 + 1 ≠ aG ∧ L + 1 + 1 ≠ aL ∧ L + 1 + 1 ≠ aA ∧ L + 1 + 1 ≠ aP) (neC : L + 1 ≠ aG ∧ L + 1 ≠ aL ∧ L + 1 ≠ aA ∧ L + 1 ≠ aP)
    (neG : aG ≠ aL ∧ aG ≠ aA ∧ aG ≠ aP) (neL : aL ≠ aA ∧ aL ≠ aP) (neA : aA ≠ aP)
    (hsm : ∀ n ∈ [0, z1, z2, z3, z4], n.natAbs < 1024)
    (hk : ∀ h' tk' g l' ab p' t5 t6 t7 t8, (g = 0 ∨ g = z1 ∨ g = z2 ∨ g = z3 ∨ g = z4) → (0 ≤ g ∧ z1 ≤ g ∧ z2 ≤ g ∧ z3 ≤ g ∧ z4 ≤ g) → (l' = 0 ∨ l' = z1 ∨ l' = z2 ∨ l' = z3 ∨ l' = z4) → (l' ≤ 0 ∧ l' ≤ z1 ∧ l' ≤ z2 ∧ l' ≤ z3 ∧ l' ≤ z4) → ab = ((List.filter (fun a => decide (0 < a)) [0, z1, z2, z3, z4]).length : Int) → p' = (([0, z1, z2, z3, z4].idxOf g : Nat) : Int) →
      Fr h₀ L h' (kT (bL aS aD aG aL aA aP st) o1 o2 o3 (some (.ref aU)) o5) → News h₀ L h' ((aU, listO #[.int 0 u0, .int z1 u1, .int z2 u2, .int z3 u3, .int z4 u4] c5) :: [(I, oI), (aG, listO (List.toArray (gv ++ [.int g t5])) (gc + 1)), (aL, listO (List.toArray (lv ++ [.int l' t6])) (lc + 1)), (aA, listO (List.toArray (av ++ [.int ab t7])) (ac + 1)), (aP, listO (List.toArray (pv ++ [.int p' t8])) (pc + 1)), (aN, oM), (L + 1 + 1, oT), (L + 1, oN)]) →
      wpC (lawM w) (lawA L a cd) (execs (turnBody.drop 10) (lawEnv L a cd)) Q (fun _ _ => False) { s with heap := h', toks := tk' }) :
    wpC (lawM w) (lawA L a cd) (execs (turnBody.drop 6) (lawEnv L a cd)) Q (fun _ _ => False) s := by
  revert X
  dsimp only [lawM]
  k_fill
  intro X
  dsimp only [turnSt, turnBody, loopBody, lawSt, lawBody, bodyOf, List.getD_cons_zero, List.getD_cons_succ, lawEnv, lawA, lawScope, scopeOf] at hk ⊢
  show wpC _ _ (execs (_ :: _ :: _ :: _ :: _) _) _ _ _
  refine wpC_execs_cons (wpC_any ?_)
  show wpAny _ _ (exec (Stmt.Expr _ _) _) _ _ _
  k_steps
  show wpAny _ _ _ _ _ _
  rename_i _ M1 _ _ F1 N1 aM bM
  refine append_led (pre := [_, _]) F1 N1 ?_ ?_ hg ?_
  · exact all2 neU.1 neI.1
  · intro p hp
    simp only [List.mem_cons, List.not_mem_nil, or_false] at hp
    rcases hp with rfl | rfl | rfl | rfl | rfl | rfl
    · exact Ne.symm neG.1
    · exact Ne.symm neG.2.1
    · exact Ne.symm neG.2.2
    · exact neN.1
    · exact neT.1
    · exact neC.1
  intro h2 F2 N2
  clear F1 N1
  dsimp only [List.cons_append, List.nil_append] at N2 ⊢
  refine wpC_execs_cons (wpC_any ?_)
  show wpAny _ _ (exec (Stmt.Expr _ _) _) _ _ _
  k_steps
  show wpAny _ _ _ _ _ _
  rename_i _ M2 _ _ F3 N3 aM2 bM2
  refine append_led (pre := [_, _, _]) F3 N3 ?_ ?_ hl ?_
  · exact all3 neU.2.1 neI.2.1 neG.1
  · intro p hp
    simp only [List.mem_cons, List.not_mem_nil, or_false] at hp
    rcases hp with rfl | rfl | rfl | rfl | rfl
    · exact Ne.symm neL.1
    · exact Ne.symm neL.2
    · exact neN.2.1
    · exact neT.2.1
    · exact neC.2.1
  intro h4 F4 N4
  clear F3 N3
  dsimp only [List.cons_append, List.nil_append] at N4 ⊢
  refine wpC_execs_cons (wpC_any ?_)
  show wpAny _ _ (exec (Stmt.Expr _ _) _) _ _ _
  k_steps
  all_goals (try k_data)
  rename (CarriedAll _ _) => c6
  rename (Heap.IsList _ _ _) => l6
  rename (News h₀ L _ _) => N6
  rename (Fr h₀ L _ _) => F6
  have i6 := c6.intsOf
  have e6 := i6.length
  have e7 : (List.map (fun a => a) (List.filter (fun a => decide (0 < a)) [0, z1, z2, z3, z4])).length ≤ 5 := by
    rw [List.length_map]
    exact List.length_filter_le _ _
  refine call_len_list l6 (by rw [List.size_toArray]; omega) ?_
  clear i6 c6
  k_steps
  show wpAny _ _ _ _ _ _
  rw [List.size_toArray, e6, List.length_map]
  refine append_led (pre := [_, _, _, _]) F6 N6 ?_ ?_ ha ?_
  · exact all4 neU.2.2.1 neI.2.2.1 neG.2.1 neL.1
  · intro p hp
    simp only [List.mem_cons, List.not_mem_nil, or_false] at hp
    rcases hp with rfl | rfl | rfl | rfl
    · exact Ne.symm neA
    · exact neN.2.2.1
    · exact neT.2.2.1
    · exact neC.2.2.1
  intro h7 F7 N7
  clear F6 N6
  dsimp only [List.cons_append, List.nil_append] at N7 ⊢
  refine wpC_execs_cons (wpC_any ?_)
  show wpAny _ _ (exec (Stmt.Expr _ _) _) _ _ _
  k_steps
  rename_i _ M3 _ _ F8 N8 aM3 bM3
  have eM : M3 = M1 := Int.le_antisymm (most_one aM3 bM) (most_one aM bM3)
  have hin : M3 ∈ [0, z1, z2, z3, z4] := by
    rcases aM3 with h | h | h | h | h
    · rw [h]; exact .head _
    · rw [h]; exact .tail _ (.head _)
    · rw [h]; exact .tail _ (.tail _ (.head _))
    · rw [h]; exact .tail _ (.tail _ (.tail _ (.head _)))
    · rw [h]; exact .tail _ (.tail _ (.tail _ (.tail _ (.head _))))
  refine index_list_ints (News.isList N8 (.head _)) (.cons _ _ (.cons _ _ (.cons _ _ (.cons _ _ (.cons _ _ .nil))))) (ints_lay _ hsm (show 5 ≤ 100 by decide)) hin ?_
  rw [eM]
  k_steps
  show wpAny _ _ _ _ _ _
  refine append_led (pre := [_, _, _, _, _]) F8 N8 ?_ ?_ hp ?_
  · intro p hp
    simp only [List.mem_cons, List.not_mem_nil, or_false] at hp
    rcases hp with rfl | rfl | rfl | rfl | rfl
    · exact neU.2.2.2
    · exact neI.2.2.2
    · exact neG.2.2
    · exact neL.2
    · exact neA
  · intro p hp
    simp only [List.mem_cons, List.not_mem_nil, or_false] at hp
    rcases hp with rfl | rfl | rfl
    · exact neN.2.2.2
    · exact neT.2.2.2
    · exact neC.2.2.2
  intro h9 F9 N9
  clear F8 N8
  dsimp only [List.cons_append, List.nil_append] at N9 ⊢
  exact hk _ _ M1 M2 _ _ _ _ _ _ aM bM aM2 bM2 rfl rfl F9 N9
end Mine

end
section
open PySem PySem.W PyProof.Rows PySem.Calls PySem.Spec
set_option maxRecDepth 100000
namespace Mine
noncomputable def nextRow {α : Type} (r : Nat) : List α → List α
  | [a, b, c, d] => if r = 4 then [d, c, b, a] else if r = 3 then [c, b, a, d] else [b, a, c, d]
  | l => l
section
variable {x0 x1 x2 x3 : Str} (h0 : (octets x0).length = 5) (h1 : (octets x1).length = 5) (h2 : (octets x2).length = 5) (h3 : (octets x3).length = 5)
include h0 h1 h2 h3
theorem front_size (r : Nat) (hr : r = 2 ∨ r = 3 ∨ r = 4) : (KBy.picked (tapeOf [x0, x1, x2, x3]) none (some ((5 * r : Nat) : Int))).size = 5 * r := by
  obtain ⟨a0, a1, a2, a3, a4, ea⟩ := list5 h0
  obtain ⟨b0, b1, b2, b3, b4, eb⟩ := list5 h1
  obtain ⟨c0, c1, c2, c3, c4, ec⟩ := list5 h2
  obtain ⟨d0, d1, d2, d3, d4, ed⟩ := list5 h3
  rcases hr with rfl | rfl | rfl <;> (simp only [tapeOf, List.flatMap_cons, List.flatMap_nil, ea, eb, ec, ed]; kernel_rfl)
theorem turn_next (r : Nat) (hr : r = 2 ∨ r = 3 ∨ r = 4) : swapAll (swapAll (KBy.picked (tapeOf [x0, x1, x2, x3]) none (some ((5 * r : Nat) : Int))) (5 * r) 1) 5 r ++ KBy.picked (tapeOf [x0, x1, x2, x3]) (some ((5 * r : Nat) : Int)) none = tapeOf (nextRow r [x0, x1, x2, x3]) := by
  obtain ⟨a0, a1, a2, a3, a4, ea⟩ := list5 h0
  obtain ⟨b0, b1, b2, b3, b4, eb⟩ := list5 h1
  obtain ⟨c0, c1, c2, c3, c4, ec⟩ := list5 h2
  obtain ⟨d0, d1, d2, d3, d4, ed⟩ := list5 h3
  rcases hr with rfl | rfl | rfl
  · show _ = tapeOf [x1, x0, x2, x3]
    simp only [tapeOf, List.flatMap_cons, List.flatMap_nil, ea, eb, ec, ed]
    kernel_rfl
  · show _ = tapeOf [x2, x1, x0, x3]
    simp only [tapeOf, List.flatMap_cons, List.flatMap_nil, ea, eb, ec, ed]
    kernel_rfl
  · show _ = tapeOf [x3, x2, x1, x0]
    simp only [tapeOf, List.flatMap_cons, List.flatMap_nil, ea, eb, ec, ed]
    kernel_rfl
end
noncomputable def rowStep (t : Int) : Nat := if t.fmod 6 = 0 then 4 else if t.fmod 2 = 0 then 3 else 2
theorem rowStep_or (t : Int) : rowStep t = 2 ∨ rowStep t = 3 ∨ rowStep t = 4 := by
  unfold rowStep
  split
  · exact .inr (.inr rfl)
  · split
    · exact .inr (.inl rfl)
    · exact .inl rfl
end Mine
namespace Mine
theorem wpC_callWith_fnH {M : Model} {A : Around} {E : Value → Shared → Prop} {s : Shared} {env : Env} {pos : Pos} {a : Addr} {e : Expr} {rest : List Expr} {Q : Value → Shared → Prop}
    (h : wpC M A (spliced (backTo pos (starEach (e :: rest) env))) (fun vs s₁ => Halt ((∃ o fd, s₁.heap.get? a = some o ∧ o.data = .func fd) ∧ wpC M A (call (.ref a) vs) Q E s₁)) E s)
    (he : starEach (e :: rest) env = (false, eval e env) :: starEach rest env := by rfl) :
    wpC M A (callWith pos (.ref a) [] (backTo pos (starEach (e :: rest) env)) []) Q E s := wpC_callWith_fn1 h he
end Mine

end
local macro_rules | `(tactic| walk_at "none here") => `(tactic| skip)
local macro_rules | `(tactic| walk_at "none here") => `(tactic| skip)
theorem Join.rstcr : True := by
  w_top off
  trivial
section
open PySem PySem.W PyProof.Rows PySem.Calls PySem.Spec
open PyProof.Rows.LCg
set_option maxRecDepth 100000
set_option maxHeartbeats 80000000
namespace Mine
local macro_rules | `(tactic| k_all) => `(tactic| exact ne_of_all_lt (by assumption))
theorem law_tape (w : World) {h₀ : Heap} {mean : ExcName → Option Value} {mg mb : Str → Option Value} {L a : Addr} {cd : Value} {base : Heap} {s : Shared} {oI oG oL oA oP oN oT oM oU : Obj} {I aG aL aA aP aN aU : Addr} {Q : Flow → Shared → Prop}
    {turn : Int} {tt ttp : Tok} {x0 x1 x2 x3 : Str} {n0 n1 n2 n3 : Int}
    (T : Top Mine.hd.view_39 (looseW Mine.hd.view_39 [Str.ofString "_norm_version"]) mean mg mb h₀) (X : (Mine.hd.heap_39 w.params).In h₀) (B : Below callerA base [] h₀)
    {b : Str → Option Value} {o2 o3 o4 o5 : Option Value} (F : Fr h₀ L s.heap (kT b (some (.int turn tt)) o2 o3 o4 o5))
    (N : News h₀ L s.heap [(aU, oU), (I, oI), (aG, oG), (aL, oL), (aA, oA), (aP, oP), (aN, oM), (L + 1 + 1, oT), (L + 1, oN)])
    (hdT : oT.data = .cell (some (.bytes (tapeOf [x0, x1, x2, x3]) ttp)))
    (k0 : CellOk x0 n0) (k1 : CellOk x1 n1) (k2 : CellOk x2 n2) (k3 : CellOk x3 n3)
    (ne : ∀ p ∈ [(aU, oU), (I, oI), (aG, oG), (aL, oL), (aA, oA), (aP, oP), (aN, oM)], p.1 ≠ L + 1 + 1)
    (hk : ∀ h' tk' oT' o5' t', oT'.data = .cell (some (.bytes (tapeOf (nextRow (rowStep turn) [x0, x1, x2, x3])) t')) → Fr h₀ L h' (kT b (some (.int turn tt)) o2 o3 o4 o5') →
      News h₀ L h' [(aU, oU), (I, oI), (aG, oG), (aL, oL), (aA, oA), (aP, oP), (aN, oM), (L + 1 + 1, oT'), (L + 1, oN)] → Q .next { s with heap := h', toks := tk' }) :
    wpC (lawM w) (lawA L a cd) (execs (turnBody.drop 10) (lawEnv L a cd)) Q (fun _ _ => False) s := by
  revert X
  dsimp only [lawM]
  k_fill
  intro X
  dsimp only [turnSt, turnBody, loopBody, lawSt, lawBody, bodyOf, List.getD_cons_zero, List.getD_cons_succ, lawEnv, lawA, lawScope, scopeOf]
  show wpC _ _ (execs (_ :: _ :: []) _) _ _ _
  have hnw := news_lt N
  refine wpC_execs_cons (wpC_any ?_)
  show wpAny _ _ (exec (Stmt.Assign _ _ _) _) _ _ _
  refine wpAny_mono (Q := fun f s' => Halt (f = .next ∧ ∃ h2 tk2 t2, s' = { s with heap := h2, toks := tk2 } ∧ Fr h₀ L h2 (kT b (some (.int turn tt)) o2 o3 o4 (some (.int ((5 * rowStep turn : Nat) : Int) t2))) ∧ News h₀ L h2 [(aU, oU), (I, oI), (aG, oG), (aL, oL), (aA, oA), (aP, oP), (aN, oM), (L + 1 + 1, oT), (L + 1, oN)])) ?_ ?_ (fun _ _ x => x)
  · k_steps
    · have e : rowStep turn = 4 := by unfold rowStep; rw [if_pos (by assumption)]
      rw [e]
      exact ⟨by trivial, _, _, _, rfl, Fr_eq (by assumption) (fun y => kT_size ..), by assumption⟩
    · have e : rowStep turn = 3 := by unfold rowStep; rw [if_neg (by assumption), if_pos (by assumption)]
      rw [e]
      exact ⟨by trivial, _, _, _, rfl, Fr_eq (by assumption) (fun y => kT_size ..), by assumption⟩
    · have e : rowStep turn = 2 := by unfold rowStep; rw [if_neg (by assumption), if_neg (by assumption)]
      rw [e]
      exact ⟨by trivial, _, _, _, rfl, Fr_eq (by assumption) (fun y => kT_size ..), by assumption⟩
  rintro f s' ⟨rfl, h2, tk2, t2, rfl, F2, N2⟩
  clear F N
  dsimp only
  have hr := rowStep_or turn
  have fs := front_size (octets_len k0) (octets_len k1) (octets_len k2) (octets_len k3) (rowStep turn) hr
  have tn := turn_next (octets_len k0) (octets_len k1) (octets_len k2) (octets_len k3) (rowStep turn) hr
  generalize rowStep turn = r at *
  refine wpC_execs_cons ?_
  show wpC _ _ (exec (Stmt.Assign _ _ _) _) _ _ _
  refine wpC_Assign_Name (wpC_BinOp (wpC_Call_Name ?_)) (by with_unfolding_all rfl)
  k_steps
  refine wpC_callWith_fnH (wpC_args (wpC_Call_Name ?_) rfl)
  k_steps
  refine wpC_callWith_fnH (wpC_args (wpC_any ?_) rfl)
  obtain ⟨KS, hb, hKS⟩ : ∃ KS, KBw.bInts (tapeOf [x0, x1, x2, x3]) = KS ∧ KS.length = 20 := ⟨_, rfl, by rw [KBw.ints_length, tape_size (octets_len k0) (octets_len k1) (octets_len k2) (octets_len k3)]⟩
  k_steps
  rename (News h₀ L _ _) => N3
  rename (Fr h₀ L _ _) => F3
  have r5 : 0 < 5 * r ∧ 5 * r ≤ 20 := by omega
  refine ⟨⟨_, _, (X.keeps F3.keep) _ _ (by k_is), rfl⟩, ?_⟩
  refine' swap_ctr w _ _ _ (5 * r) _ (by omega) r5.1 (by omega) 1 (by omega) _ _ _ _ _ _ _ _ _ _ _ _ _ _ _ _ _ _ _ _ _ _ B F3 X N3 T rfl (by decide) (by decide) ?_
  rintro v4 h4 tk4 own4 ⟨t4, rfl, rfl⟩ F4 N4
  simp only [List.nil_append] at N4
  clear F3 N3
  k_steps
  have sz4 : (swapAll (KBy.picked (tapeOf [x0, x1, x2, x3]) none (some ((5 * r : Nat) : Int))) (5 * r) 1).size = 5 * r := by rw [swapAll_size, fs]
  refine ⟨⟨_, _, (X.keeps F4.keep) _ _ (by k_is), rfl⟩, ?_⟩
  refine' swap_ctr w _ _ _ 5 _ (by omega) (by decide) (by decide) r (by omega) _ _ _ _ _ _ _ _ _ _ _ _ _ _ _ _ _ _ _ _ _ _ B F4 X N4 T rfl (by decide) (by decide) ?_
  rintro v5 h5 tk5 own5 ⟨t5, rfl, rfl⟩ F5 N5
  simp only [List.nil_append] at N5
  clear F4 N4
  have sz5 : (swapAll (swapAll (KBy.picked (tapeOf [x0, x1, x2, x3]) none (some ((5 * r : Nat) : Int))) (5 * r) 1) 5 r).size = 5 * r := by rw [swapAll_size, sz4]
  k_steps
  rename (KBw.bInts _ = List.take _ _) => kb6
  rename (News h₀ L _ _) => N6
  rename (Fr h₀ L _ _) => F6
  have sz6 := congrArg List.length kb6
  rw [KBw.ints_length, List.length_take] at sz6
  refine KBy.add_bytes (by omega) fun t7 k7 => ?_
  rw [tn]
  refine' storeX_C (c := L + 1 + 1) F6 N6 rfl (UpdF.tail ?a0 (UpdF.tail ?a1 (UpdF.tail ?a2 (UpdF.tail ?a3 (UpdF.tail ?a4 (UpdF.tail ?a5 (UpdF.tail ?a6 (UpdF.head ?a7)))))))) hdT ?_
  case a0 => exact ne _ (.head _)
  case a1 => exact ne _ (.tail _ (.head _))
  case a2 => exact ne _ (.tail _ (.tail _ (.head _)))
  case a3 => exact ne _ (.tail _ (.tail _ (.tail _ (.head _))))
  case a4 => exact ne _ (.tail _ (.tail _ (.tail _ (.tail _ (.head _)))))
  case a5 => exact ne _ (.tail _ (.tail _ (.tail _ (.tail _ (.tail _ (.head _))))))
  case a6 => exact ne _ (.tail _ (.tail _ (.tail _ (.tail _ (.tail _ (.tail _ (.head _)))))))
  case a7 =>
    intro p hp
    rw [List.mem_singleton.mp hp]
    exact fun q => absurd q (Nat.ne_of_lt (Nat.lt_succ_self _))
  intro h8 o8 F8 N8 d8
  exact wpC_execs_nil (hk _ _ _ _ _ d8 F8 N8)
end Mine

end
section
open PySem PySem.W PyProof.Rows PySem.Calls PySem.Spec
open PyProof.Rows.LCg
set_option maxRecDepth 100000
set_option maxHeartbeats 80000000
namespace Mine
theorem turnBody_eq : turnBody = turnSt 0 :: turnSt 1 :: turnSt 2 :: turnSt 3 :: turnSt 4 :: turnSt 5 :: turnBody.drop 6 := by kernel_rfl
theorem law_turn (w : World) {h₀ : Heap} {mean : ExcName → Option Value} {mg mb : Str → Option Value} {L a I : Addr} {cd : Value} {base : Heap} {s : Shared} {oI oN oT : Obj} {aS aD aG aL aA aP aN : Addr} {st : Value} {Q : Flow → Shared → Prop}
    {x0 x1 x2 x3 : Str} {n0 n1 n2 n3 N0 N1 N2 N3 turn : Int} {tt ttp w0 w1 w2 w3 : Tok} {c4 gc lc ac pc : Nat} {gv lv av pv : List Value} {o2 o3 o4 o5 : Option Value}
    (T : Top Mine.hd.view_39 (looseW Mine.hd.view_39 [Str.ofString "_norm_version"]) mean mg mb h₀) (X : (Mine.hd.heap_39 w.params).In h₀) (B : Below callerA base [] h₀)
    (F : Fr h₀ L s.heap (kT (bL aS aD aG aL aA aP st) (some (.int turn tt)) o2 o3 o4 o5))
    (N : News h₀ L s.heap [(I, oI), (aG, listO (List.toArray gv) gc), (aL, listO (List.toArray lv) lc), (aA, listO (List.toArray av) ac), (aP, listO (List.toArray pv) pc), (aN, listO #[.int N0 w0, .int N1 w1, .int N2 w2, .int N3 w3] c4), (L + 1 + 1, oT), (L + 1, oN)])
    (hdT : oT.data = .cell (some (.bytes (tapeOf [x0, x1, x2, x3]) ttp))) (hdN : oN.data = .cell (some (.ref aN)))
    (k0 : CellOk x0 n0) (k1 : CellOk x1 n1) (k2 : CellOk x2 n2) (k3 : CellOk x3 n3) (hz : (N0 + (N1 + (N2 + (N3 + 0)))) - (n0 + n1 + n2) = n3) (ht : 1 ≤ turn ∧ turn ≤ 24)
    (r1 : turn = 1 → n0 = N0 ∧ n1 = N1 ∧ n2 = N2) (r2 : turn = 2 → n0 = N1 ∧ n1 = N0 ∧ n2 = N2) (r3 : turn = 3 → n0 = N2 ∧ n1 = N0 ∧ n2 = N1)
    (hg : gv.length ≤ 30) (hl : lv.length ≤ 30) (ha : av.length ≤ 30) (hp : pv.length ≤ 30)
    (neI : I ≠ aG ∧ I ≠ aL ∧ I ≠ aA ∧ I ≠ aP) (neN : aN ≠ aG ∧ aN ≠ aL ∧ aN ≠ aA ∧ aN ≠ aP) (neT : L + 1 + 1 ≠ aG ∧ L + 1 + 1 ≠ aL ∧ L + 1 + 1 ≠ aA ∧ L + 1 + 1 ≠ aP) (neC : L + 1 ≠ aG ∧ L + 1 ≠ aL ∧ L + 1 ≠ aA ∧ L + 1 ≠ aP)
    (neG : aG ≠ aL ∧ aG ≠ aA ∧ aG ≠ aP) (neL : aL ≠ aA ∧ aL ≠ aP) (neA : aA ≠ aP) (neIT : I ≠ L + 1 + 1) (neNT : aN ≠ L + 1 + 1)
    (hk : ∀ h' tk' o2' o3' o4' o5' g l' ab p' t5 t6 t7 t8 oT' t', (g = 0 ∨ g = n0 ∨ g = n0 + n1 ∨ g = n0 + n1 + n2 ∨ g = n0 + n1 + n2 + n3) → (0 ≤ g ∧ n0 ≤ g ∧ n0 + n1 ≤ g ∧ n0 + n1 + n2 ≤ g ∧ n0 + n1 + n2 + n3 ≤ g) →
      (l' = 0 ∨ l' = n0 ∨ l' = n0 + n1 ∨ l' = n0 + n1 + n2 ∨ l' = n0 + n1 + n2 + n3) → (l' ≤ 0 ∧ l' ≤ n0 ∧ l' ≤ n0 + n1 ∧ l' ≤ n0 + n1 + n2 ∧ l' ≤ n0 + n1 + n2 + n3) → ab = ((List.filter (fun a => decide (0 < a)) [0, n0, n0 + n1, n0 + n1 + n2, n0 + n1 + n2 + n3]).length : Int) →
      p' = (([0, n0, n0 + n1, n0 + n1 + n2, n0 + n1 + n2 + n3].idxOf g : Nat) : Int) →
      oT'.data = .cell (some (.bytes (tapeOf (nextRow (rowStep turn) [x0, x1, x2, x3])) t')) →
      Fr h₀ L h' (kT (bL aS aD aG aL aA aP st) (some (.int turn tt)) o2' o3' o4' o5') →
      News h₀ L h' [(I, oI), (aG, listO (List.toArray (gv ++ [.int g t5])) (gc + 1)), (aL, listO (List.toArray (lv ++ [.int l' t6])) (lc + 1)), (aA, listO (List.toArray (av ++ [.int ab t7])) (ac + 1)), (aP, listO (List.toArray (pv ++ [.int p' t8])) (pc + 1)), (aN, listO #[.int N0 w0, .int N1 w1, .int N2 w2, .int N3 w3] c4), (L + 1 + 1, oT'), (L + 1, oN)] → Q .next { s with heap := h', toks := tk' }) :
    wpC (lawM w) (lawA L a cd) (execs turnBody (lawEnv L a cd)) Q (fun _ _ => False) s := by
  have ez : N0 + (N1 + (N2 + (N3 + 0))) = n0 + n1 + n2 + n3 := by omega
  rw [turnBody_eq]
  refine wpC_execs_cons (wpC_any (law_cells w T X B F N hdT k0 k1 k2 k3 ?_))
  intro h1 tk1 aC t0 t1 t2 t3 c F1 N1
  refine wpC_execs_cons (wpC_any (law_told w T X B F1 N1 k0 k1 k2 k3 ht ?_))
  intro h2 tk2 aK u0 u1 u2 c' F2 N2' _
  refine wpC_execs_cons (law_check (m := fun _ => none) w T X B F2 N2' k0.fit k1.fit k2.fit ?_)
  intro h3 tk3 F3 N3'
  refine wpC_execs_cons (wpC_any (law_first w T X B F3 N3' hdN k0.fit k1.fit k2.fit ht r1 r2 r3 ?_))
  intro h4 tk4 F4 N4
  refine wpC_execs_cons (wpC_any (law_sums w T X B F4 N4 hdN k0.fit k1.fit k2.fit ?_))
  intro h5 tk5 aU v0 v1 v2 v3 v4 F5 N5 lt5
  refine wpC_execs_cons (wpC_any (law_sixth w T X B F5 N5 k0 k1 k2 k3 hz ht ?_))
  intro h6 tk6 F6 N6
  have N6' := skip2 N6
  rw [ez] at N6'
  have f0 := k0.fit
  have f1 := k1.fit
  have f2 := k2.fit
  have f3 := k3.fit
  refine law_lists w T X B F6 N6' hg hl ha hp ?_ neI neN neT neC neG neL neA ?_ ?_
  · exact ⟨Ne.symm (Nat.ne_of_lt (lt5 (aG, listO gv.toArray gc) (.tail _ (.head _)))), Ne.symm (Nat.ne_of_lt (lt5 (aL, listO lv.toArray lc) (.tail _ (.tail _ (.head _))))), Ne.symm (Nat.ne_of_lt (lt5 (aA, listO av.toArray ac) (.tail _ (.tail _ (.tail _ (.head _)))))), Ne.symm (Nat.ne_of_lt (lt5 (aP, listO pv.toArray pc) (.tail _ (.tail _ (.tail _ (.tail _ (.head _)))))))⟩
  · intro n hn
    simp only [List.mem_cons, List.not_mem_nil, or_false] at hn
    omega
  intro h7 tk7 g l' ab p' t5 t6 t7 t8 e1 e2 e3 e4 e5 e6 F7 N7
  refine law_tape w T X B F7 N7 hdT k0 k1 k2 k3 ?_ ?_
  · intro p hp
    simp only [List.mem_cons, List.not_mem_nil, or_false] at hp
    rcases hp with rfl | rfl | rfl | rfl | rfl | rfl | rfl
    · exact Ne.symm (Nat.ne_of_lt (lt5 (L + 1 + 1, oT) (.tail _ (.tail _ (.tail _ (.tail _ (.tail _ (.tail _ (.head _)))))))))
    · exact neIT
    · exact Ne.symm neT.1
    · exact Ne.symm neT.2.1
    · exact Ne.symm neT.2.2.1
    · exact Ne.symm neT.2.2.2
    · exact neNT
  intro h8 tk8 oT' o5' t' d8 F8 N8
  exact hk _ _ _ _ _ _ g l' ab p' _ _ _ _ oT' t' e1 e2 e3 e4 e5 e6 d8 F8 fun p hp => N8 p (.tail _ hp)
end Mine

end
section
open PySem PySem.W PyProof.Rows PySem.Calls PySem.Spec
set_option maxRecDepth 100000
namespace Mine
open Plain (rowsT rMax rMin rAbove rPlace onRow max_is min_is place_is)
theorem above_is (a b c d : Int) : (List.filter (fun x => decide (0 < x)) [0, a, a + b, a + b + c, a + b + c + d]).length = rAbove a b c d := by
  have e : ∀ (x : Int) (l : List Int), (List.filter (fun x => decide (0 < x)) (x :: l)).length = (if 0 < x then 1 else 0) + (List.filter (fun x => decide (0 < x)) l).length := by
    intro x l
    rw [List.filter_cons]
    by_cases h : 0 < x
    · rw [if_pos (by simpa using h), if_pos h, List.length_cons]; omega
    · rw [if_neg (by simpa using h), if_neg h]; omega
  rw [e, e, e, e, e, List.filter_nil]
  unfold rAbove
  simp only [Int.lt_irrefl, if_false, List.length_nil]
  omega
/-- what is looked at in an order: it is one of the four places -/
noncomputable def fourB : List Nat → Bool
  | [i, j, k, l] => decide (i < 4) && decide (j < 4) && decide (k < 4) && decide (l < 4) && Plain.partOk (2 ^ i) (2 ^ j) && Plain.partOk (2 ^ i + 2 ^ j) (2 ^ k) && Plain.partOk (2 ^ i + 2 ^ j + 2 ^ k) (2 ^ l) && 2 ^ i + 2 ^ j + 2 ^ k + 2 ^ l == 15
  | _ => false
theorem four_all : ∀ row ∈ rowsT, fourB row = true := by decide +kernel
theorem four_row : ∀ row : List Nat, fourB row = true → ∃ i j k l, row = [i, j, k, l]
  | [], h | [_], h | [_, _], h | [_, _, _], h | _ :: _ :: _ :: _ :: _ :: _, h => Bool.noConfusion h
  | [i, j, k, l], _ => ⟨i, j, k, l, rfl⟩
theorem row_is : ∀ row ∈ rowsT, ∃ i j k l, row = [i, j, k, l] ∧ i < 4 ∧ j < 4 ∧ k < 4 ∧ l < 4 ∧ ∀ N0 N1 N2 N3 : Int, Plain.num N0 N1 N2 N3 i + Plain.num N0 N1 N2 N3 j + Plain.num N0 N1 N2 N3 k + Plain.num N0 N1 N2 N3 l = N0 + N1 + N2 + N3 := by
  intro row h
  have hB := four_all row h
  obtain ⟨i, j, k, l, rfl⟩ := four_row row hB
  simp only [fourB, Bool.and_eq_true, decide_eq_true_eq, beq_iff_eq, and_assoc] at hB
  obtain ⟨hi, hj, hk, hl, p1, p2, p3, e⟩ := hB
  refine ⟨i, j, k, l, rfl, hi, hj, hk, hl, fun N0 N1 N2 N3 => ?_⟩
  rw [Plain.num_sub _ _ _ _ i hi, Plain.num_sub _ _ _ _ j hj, Plain.num_sub _ _ _ _ k hk, Plain.num_sub _ _ _ _ l hl, ← Plain.sub_part _ _ _ _ p1, ← Plain.sub_part _ _ _ _ p2, ← Plain.sub_part _ _ _ _ p3, e]
  rfl
noncomputable def rowAt (i : Nat) : List Nat := rowsT.getD i [0, 1, 2, 3]
theorem rowAt_mem : ∀ i : Nat, i < 24 → rowAt i ∈ rowsT := by decide
theorem rowAt_next : ∀ i : Nat, i < 24 → nextRow (rowStep (1 + (i : Int) * 1)) (rowAt i) = rowAt (i + 1) := by decide
theorem rowAt_get : ∀ i : Nat, i < 24 → rowsT[i]? = some (rowAt i) := by decide
theorem rowAt_first : rowAt 0 = [0, 1, 2, 3] ∧ rowAt 1 = [1, 0, 2, 3] ∧ rowAt 2 = [2, 0, 1, 3] ∧ rowAt 24 = [0, 1, 2, 3] := by decide
theorem nextRow_map {α β : Type} (f : α → β) (r : Nat) (l : List α) : nextRow r (l.map f) = (nextRow r l).map f := by
  match l with
  | [a, b, c, d] =>
    show (if r = 4 then _ else if r = 3 then _ else _) = List.map f (if r = 4 then _ else if r = 3 then _ else _)
    split
    · rfl
    · split <;> rfl
  | [] | [_] | [_, _] | [_, _, _] => rfl
  | _ :: _ :: _ :: _ :: _ :: _ => rfl
end Mine

end
local macro_rules | `(tactic| walk_at "none here") => `(tactic| skip)
theorem Join.rstcu : True := by
  w_top off
  trivial
section
open PySem PySem.W PyProof.Rows PySem.Calls PySem.Spec
open PyProof.Rows.LCg
set_option maxRecDepth 100000
set_option maxHeartbeats 80000000
namespace Mine
open Plain (rowsT rMax rMin rAbove rPlace max_is min_is place_is)
local macro_rules | `(tactic| k_all) => `(tactic| exact ne_of_all_lt (by assumption))
noncomputable def dsel (d0 d1 d2 d3 : Int) : Nat → Int
  | 0 => d0 | 1 => d1 | 2 => d2 | _ => d3
/-- what holds ahead of the turn i -/
inductive LInv (aG aL aA aP : Addr) (b : Str → Option Value) (tail : Obj → List (Addr × Obj)) (d0 d1 d2 d3 : Int) (i : Nat) (m' : Str → Option Value) (nw : List (Addr × Obj)) : Prop
  | mk (o1 o2 o3 o4 o5 : Option Value) (gv lv av pv : List Value) (gc lc ac pc : Nat) (oT' : Obj) (t' : Tok) : m' = kT b o1 o2 o3 o4 o5 →
    nw = (aG, listO (List.toArray gv) gc) :: (aL, listO (List.toArray lv) lc) :: (aA, listO (List.toArray av) ac) :: (aP, listO (List.toArray pv) pc) :: tail oT' →
    IntsAre gv ((rowsT.take i).map (Plain.onRow (num d0) (num d1) (num d2) (num d3) rMax)) → IntsAre lv ((rowsT.take i).map (Plain.onRow (num d0) (num d1) (num d2) (num d3) rMin)) →
    IntsAre av ((rowsT.take i).map fun r => ((Plain.onRow (num d0) (num d1) (num d2) (num d3) rAbove r : Nat) : Int)) → IntsAre pv ((rowsT.take i).map fun r => ((Plain.onRow (num d0) (num d1) (num d2) (num d3) rPlace r : Nat) : Int)) →
    oT'.data = .cell (some (.bytes (tapeOf ((rowAt i).map fun k => cellText (dsel d0 d1 d2 d3 k))) t')) → LInv aG aL aA aP b tail d0 d1 d2 d3 i m' nw
theorem law_loop (w : World) {h₀ : Heap} {mean : ExcName → Option Value} {mg mb : Str → Option Value} {L a : Addr} {cd : Value} {base : Heap} {s : Shared} {oN oT : Obj} {aS aD aG aL aA aP aN : Addr} {st : Value} {Q : Flow → Shared → Prop}
    {d0 d1 d2 d3 : Int} {ttp w0 w1 w2 w3 : Tok} {c4 : Nat}
    (T : Top Mine.hd.view_39 (looseW Mine.hd.view_39 [Str.ofString "_norm_version"]) mean mg mb h₀) (X : (Mine.hd.heap_39 w.params).In h₀) (B : Below callerA base [] h₀)
    (F : Fr h₀ L s.heap (bL aS aD aG aL aA aP st))
    (N : News h₀ L s.heap [(aG, listO #[] 0), (aL, listO #[] 0), (aA, listO #[] 0), (aP, listO #[] 0), (aN, listO #[.int (num d0) w0, .int (num d1) w1, .int (num d2) w2, .int (num d3) w3] c4), (L + 1 + 1, oT), (L + 1, oN)])
    (hdT : oT.data = .cell (some (.bytes (tapeOf [cellText d0, cellText d1, cellText d2, cellText d3]) ttp))) (hdN : oN.data = .cell (some (.ref aN)))
    (k0 : CellOk (cellText d0) (num d0)) (k1 : CellOk (cellText d1) (num d1)) (k2 : CellOk (cellText d2) (num d2)) (k3 : CellOk (cellText d3) (num d3))
    (neN : aN ≠ aG ∧ aN ≠ aL ∧ aN ≠ aA ∧ aN ≠ aP) (neT : L + 1 + 1 ≠ aG ∧ L + 1 + 1 ≠ aL ∧ L + 1 + 1 ≠ aA ∧ L + 1 + 1 ≠ aP) (neC : L + 1 ≠ aG ∧ L + 1 ≠ aL ∧ L + 1 ≠ aA ∧ L + 1 ≠ aP)
    (neG : aG ≠ aL ∧ aG ≠ aA ∧ aG ≠ aP) (neL : aL ≠ aA ∧ aL ≠ aP) (neA : aA ≠ aP) (neNT : aN ≠ L + 1 + 1)
    (hk : ∀ h' tk' o1 o2 o3 o4 o5 gv lv av pv gc lc ac pc oT' t', IntsAre gv (rowsT.map (Plain.onRow (num d0) (num d1) (num d2) (num d3) rMax)) → IntsAre lv (rowsT.map (Plain.onRow (num d0) (num d1) (num d2) (num d3) rMin)) →
      IntsAre av (rowsT.map fun r => ((Plain.onRow (num d0) (num d1) (num d2) (num d3) rAbove r : Nat) : Int)) → IntsAre pv (rowsT.map fun r => ((Plain.onRow (num d0) (num d1) (num d2) (num d3) rPlace r : Nat) : Int)) →
      oT'.data = .cell (some (.bytes (tapeOf [cellText d0, cellText d1, cellText d2, cellText d3]) t')) →
      Fr h₀ L h' (kT (bL aS aD aG aL aA aP st) o1 o2 o3 o4 o5) →
      News h₀ L h' [(aG, listO (List.toArray gv) gc), (aL, listO (List.toArray lv) lc), (aA, listO (List.toArray av) ac), (aP, listO (List.toArray pv) pc), (aN, listO #[.int (num d0) w0, .int (num d1) w1, .int (num d2) w2, .int (num d3) w3] c4), (L + 1 + 1, oT'), (L + 1, oN)] → Q .next { s with heap := h', toks := tk' }) :
    wpC (lawM w) (lawA L a cd) (exec (lawSt 8) (lawEnv L a cd)) Q (fun _ _ => False) s := by
  revert X
  dsimp only [lawM]
  k_fill
  intro X
  have body : ∃ t i b o p, lawSt 8 = Stmt.For t i turnBody o p ∧ b = turnBody := ⟨_, _, _, _, _, rfl, rfl⟩
  dsimp only [lawSt, lawBody, bodyOf, List.getD_cons_zero, List.getD_cons_succ, lawEnv, lawA, lawScope, scopeOf]
  show wpC _ _ (exec (Stmt.For _ _ turnBody _ _) _) _ _ _
  have hnw := news_lt N
  refine wpC_For ?_
  k_steps
  rename (News h₀ L _ _) => N1
  rename (Fr h₀ L _ _) => F1
  rename (IsRange _ _ _ _ _ _ _ _) => R1
  have ck : ∀ k, k < 4 → CellOk (cellText (dsel d0 d1 d2 d3 k)) (num (dsel d0 d1 d2 d3 k)) :=
    lt4 (P := fun k => CellOk (cellText (dsel d0 d1 d2 d3 k)) (num (dsel d0 d1 d2 d3 k))) k0 k1 k2 k3
  have nk : ∀ k, k < 4 → Plain.num (num d0) (num d1) (num d2) (num d3) k = num (dsel d0 d1 d2 d3 k) :=
    lt4 (P := fun k => Plain.num (num d0) (num d1) (num d2) (num d3) k = num (dsel d0 d1 d2 d3 k)) rfl rfl rfl rfl
  have kT0 : bL aS aD aG aL aA aP st = kT (bL aS aD aG aL aA aP st) none none none none none := by
    funext y
    show bL aS aD aG aL aA aP st y = if y = Str.ofString "size" then none else if y = Str.ofString "sums" then none else if y = Str.ofString "told" then none else if y = Str.ofString "cells" then none else if y = Str.ofString "turn" then none else bL aS aD aG aL aA aP st y
    split
    · rename_i h; rw [h]; rfl
    split
    · rename_i h; rw [h]; rfl
    split
    · rename_i h; rw [h]; rfl
    split
    · rename_i h; rw [h]; rfl
    split
    · rename_i h; rw [h]; rfl
    · rfl
  dsimp only
  refine iterC_range (n := 24) R1 (small_of (by decide) (by decide) (by decide)) (by decide) rfl rfl rfl F1 N1
    (LInv aG aL aA aP (bL aS aD aG aL aA aP st) (fun oT' => [(aN, listO #[.int (num d0) w0, .int (num d1) w1, .int (num d2) w2, .int (num d3) w3] c4), (L + 1 + 1, oT'), (L + 1, oN)]) d0 d1 d2 d3)
    ⟨_, _, _, _, _, [], [], [], [], 0, 0, 0, 0, oT, ttp, kT0, rfl, .nil, .nil, .nil, .nil, hdT⟩ ?_ ?_
  · rintro I i ti m₁ news₁ h2 tk2 Qb hI hi ⟨o1, o2, o3, o4, o5, gv, lv, av, pv, gc, lc, ac, pc, oT', t', rfl, rfl, e1, e2, e3, e4, e5⟩ hne F2' N2 hQb
    have F2 := Fr_eq F2' (fun y => kT_turn ..)
    clear F2' F1 N1
    obtain ⟨i0, i1, i2, i3, hrow, l0, l1, l2, l3, hsum⟩ := row_is (rowAt i) (rowAt_mem i hi)
    have hs := hsum (num d0) (num d1) (num d2) (num d3)
    rw [nk _ l0, nk _ l1, nk _ l2, nk _ l3] at hs
    rw [hrow] at e5
    have tl : (rowsT.take i).length ≤ 24 := Nat.le_trans (List.length_take_le' ..) (by decide)
    have g1 := e1.length
    have g2 := e2.length
    have g3 := e3.length
    have g4 := e4.length
    rw [List.length_map] at g1 g2 g3 g4
    refine law_turn w T X B F2 N2 e5 hdN (ck _ l0) (ck _ l1) (ck _ l2) (ck _ l3) (by omega) (by omega) ?r1 ?r2 ?r3 (by omega) (by omega) (by omega) (by omega) ?nI neN neT neC neG neL neA ?nIT neNT ?_
    case r1 =>
      intro h
      obtain rfl : i = 0 := by omega
      rw [rowAt_first.1] at hrow
      cases hrow
      exact ⟨rfl, rfl, rfl⟩
    case r2 =>
      intro h
      obtain rfl : i = 1 := by omega
      rw [rowAt_first.2.1] at hrow
      cases hrow
      exact ⟨rfl, rfl, rfl⟩
    case r3 =>
      intro h
      obtain rfl : i = 2 := by omega
      rw [rowAt_first.2.2.1] at hrow
      cases hrow
      exact ⟨rfl, rfl, rfl⟩
    case nI => exact ⟨Ne.symm (hne _ (.head _)), Ne.symm (hne _ (.tail _ (.head _))), Ne.symm (hne _ (.tail _ (.tail _ (.head _)))), Ne.symm (hne _ (.tail _ (.tail _ (.tail _ (.head _)))))⟩
    case nIT => exact Ne.symm (hne _ (.tail _ (.tail _ (.tail _ (.tail _ (.tail _ (.head _)))))))
    intro h3 tk3 p2 p3 p4 p5 g l' ab p' t5 t6 t7 t8 oT2 t2 f1 f2 f3 f4 f5 f6 d3' F3 N3
    have og : ∀ {α : Type} (f : Int → Int → Int → Int → α), Plain.onRow (num d0) (num d1) (num d2) (num d3) f (rowAt i) = f (num (dsel d0 d1 d2 d3 i0)) (num (dsel d0 d1 d2 d3 i1)) (num (dsel d0 d1 d2 d3 i2)) (num (dsel d0 d1 d2 d3 i3)) := fun f => by
      rw [hrow, ← nk _ l0, ← nk _ l1, ← nk _ l2, ← nk _ l3]
      rfl
    have hgm := max_is f1 f2
    have hlm := min_is f3 f4
    rw [above_is] at f5
    rw [hgm, place_is] at f6
    have hnext : nextRow (rowStep (1 + (i : Int) * 1)) [cellText (dsel d0 d1 d2 d3 i0), cellText (dsel d0 d1 d2 d3 i1), cellText (dsel d0 d1 d2 d3 i2), cellText (dsel d0 d1 d2 d3 i3)] = (rowAt (i + 1)).map fun k => cellText (dsel d0 d1 d2 d3 k) := by
      rw [← rowAt_next i hi, ← nextRow_map, hrow]
      rfl
    rw [hnext] at d3'
    have eg := take_snoc (rowAt_get i hi)
    refine hQb h3 tk3 _ _ F3 N3 ?_ ⟨_, _, _, _, _, _, _, _, _, _, _, _, _, oT2, t2, rfl, rfl, ?_, ?_, ?_, ?_, d3'⟩
    · intro p hp
      simp only [List.mem_cons, List.not_mem_nil, or_false] at hp
      rcases hp with rfl | rfl | rfl | rfl | rfl | rfl | rfl
      · exact hne (aG, listO gv.toArray gc) (.head _)
      · exact hne (aL, listO lv.toArray lc) (.tail _ (.head _))
      · exact hne (aA, listO av.toArray ac) (.tail _ (.tail _ (.head _)))
      · exact hne (aP, listO pv.toArray pc) (.tail _ (.tail _ (.tail _ (.head _))))
      · exact hne _ (.tail _ (.tail _ (.tail _ (.tail _ (.head _)))))
      · exact hne (L + 1 + 1, oT') (.tail _ (.tail _ (.tail _ (.tail _ (.tail _ (.head _))))))
      · exact hne _ (.tail _ (.tail _ (.tail _ (.tail _ (.tail _ (.tail _ (.head _)))))))
    · rw [eg, List.map_append, List.map_cons, List.map_nil, og rMax, hgm]
      exact e1.append (.cons _ _ .nil)
    · rw [eg, List.map_append, List.map_cons, List.map_nil, og rMin, hlm]
      exact e2.append (.cons _ _ .nil)
    · rw [eg, List.map_append, List.map_cons, List.map_nil, og rAbove, f5]
      exact e3.append (.cons _ _ .nil)
    · rw [eg, List.map_append, List.map_cons, List.map_nil, og rPlace, f6]
      exact e4.append (.cons _ _ .nil)
  · rintro h3 tk3 m3 news3 F3 N3 hne3 ⟨o1, o2, o3, o4, o5, gv, lv, av, pv, gc, lc, ac, pc, oT', t', rfl, rfl, e1, e2, e3, e4, e5⟩
    have e24 : rowsT.take 24 = rowsT := rfl
    rw [e24] at e1 e2 e3 e4
    rw [rowAt_first.2.2.2] at e5
    exact hk _ _ _ _ _ _ _ _ _ _ _ _ _ _ _ oT' t' e1 e2 e3 e4 e5 F3 N3
end Mine

end
section
open PySem PySem.W PyProof.Rows PySem.Calls PySem.Spec PyProof.V
open Builtin
set_option maxRecDepth 100000
namespace Mine
noncomputable def revd (b : Array UInt8) : Array UInt8 := Bytes.sliced b (sliceBounds none none (some (-1)) b.size).1 (sliceBounds none none (some (-1)) b.size).2.1 (sliceBounds none none (some (-1)) b.size).2.2
open PySem.W.KBy in
theorem meets_rev (b : Array UInt8) (t tk : Tok) (a : Addr) :
    Meets («bytes.__getitem__» ⟨[.bytes b t, .ref a], []⟩) (fun _ R s => s.heap.IsSliceOf a .none .none (.int (-1) tk) ∧ (revd b).size ≤ sizeLine ∧ ∀ t' k, R (.ok (.ret (.bytes (revd b) t'))) { s with toks := k }) := by
  refine .of_wp fun prog w A R s hS => ?_
  obtain ⟨⟨o, ho, hc, hd⟩, hsz, h⟩ := hS
  have hT : s.TypeIs (.ref a) "slice" := ⟨o, ho, hc⟩
  show wpAny _ _ (Bytes.payload (.bytes b t) >>= fun r => _) _ _ s
  refine wpAny_bind (wpAny_of_eq (a := b) rfl ?_)
  show wpAny _ _ (Bytes.subscript? (.ref a) >>= fun r => _) _ _ s
  refine wpAny_bind ?_
  unfold Bytes.subscript?
  refine wpAny_bind (wpAny_specialOf hT slice_no_index (wpAny_pure ?_))
  refine wpAny_bind (wpAny_typeOf hT ?_)
  show wpAny _ _ (Bytes.sliceParts (.ref a) >>= fun r => _) _ _ s
  refine wpAny_bind ?_
  unfold Bytes.sliceParts
  refine wpAny_bind (wpAny_field (x := .int (-1) tk) ho hd rfl ?_)
  kby_int
  refine wpAny_ite (ite_no (show ¬ ((rawInt (-1) == rawInt 0) = true) by decide) ?_)
  refine wpAny_bind (wpAny_field (x := .none) ho hd rfl ?_)
  kby_none
  refine wpAny_bind (wpAny_field (x := .none) ho hd rfl ?_)
  kby_none
  refine wpAny_pure ?_
  have go : wpAny (model prog w) A.in1 (sliceIndices (rawPart none) (rawPart none) (rawPart (some (-1))) b.size) (fun r s' => r = sliceBounds none none (some (-1)) b.size ∧ s' = s) (fun _ _ => False) s :=
    wpAny_of_eq (sliceIndices_raw none none (some (-1)) b.size (by decide)) ⟨rfl, rfl⟩
  refine wpAny_bind (wpAny_mono go (fun r s' hr => ?_) fun _ _ e => e.elim)
  obtain ⟨hr1, hr2⟩ := hr
  subst hr1 hr2
  have hn : ¬ (((sliceBounds none none (some (-1)) b.size).1 == 0 && (sliceBounds none none (some (-1)) b.size).2.2 == 1 && (sliceBounds none none (some (-1)) b.size).2.1 == b.size && !b.isEmpty) = true) := by
    intro q
    simp only [sliceBounds, Option.getD_some, Bool.and_eq_true, beq_iff_eq] at q
    exact absurd q.1.1.2 (by decide)
  refine wpAny_ite (ite_no hn ?_)
  exact wpAny_bind (wpAny_mkBytes (wpAny_pure ⟨_, rfl, h _ _⟩) hsz)
section
variable {prog : Program} {w : World} {A : Around} {E : Value → Shared → Prop} {s : Shared} {value slice : PySem.Expr} {b : Array UInt8} {t tk : Tok} {h₀ : Heap} {L : Addr} {m : PySem.Str → Option Value} {news : List (Addr × Obj)} {Q : Value → Shared → Prop}
theorem slice_rev (hF : Fr h₀ L s.heap m) (hN : News h₀ L s.heap news) (hz : (revd b).size ≤ sizeLine)
    (h : ∀ h' t' k, Fr h₀ L h' m → News h₀ L h' news → Q (.bytes (revd b) t') { s with heap := h', toks := k })
    (hs : subscripted slice false (.bytes b t) (.ref s.heap.objs.size) = operate [.ref s.heap.objs.size, .bytes b t] (getItem (.bytes b t) (.ref s.heap.objs.size)) := by with_unfolding_all rfl)
    (ht : ∀ r, letTemporaryGo value (.bytes b t) r = pure () := by intro _; with_unfolding_all rfl) :
    wpAny (model prog w) A (subscriptTail value slice (.bytes b t) (.ref s.heap.objs.size)) Q E { s with heap := s.heap.push { cls := .type "slice", data := .fields #[.none, .none, .int (-1) tk] } } :=
  tail_of_ItemOn ⟨"bytes", _, FB.slot_bytes_getitem.lookup, typeIs_bytes _ _ _, getItem_meets (typeIs_bytes _ _ _) (by decide) FB.slot_bytes_getitem FB.entry_bytes_getitem (FB.args_bytes_getitem_2 _ _) (meets_rev b t tk _)
    ⟨Heap.IsSliceOf.new _ _ _ _, hz, fun t' k => h _ _ _ (hF.push _) (News.pushKeep hN _)⟩⟩ hs ht
end
section
variable {x0 x1 x2 x3 : Str} (h0 : (octets x0).length = 5) (h1 : (octets x1).length = 5) (h2 : (octets x2).length = 5) (h3 : (octets x3).length = 5)
include h0 h1 h2 h3
theorem tape_revd : revd (tapeOf [x0, x1, x2, x3]) = (tapeOf [x0, x1, x2, x3]).toList.reverse.toArray := by
  obtain ⟨a0, a1, a2, a3, a4, ea⟩ := list5 h0
  obtain ⟨b0, b1, b2, b3, b4, eb⟩ := list5 h1
  obtain ⟨c0, c1, c2, c3, c4, ec⟩ := list5 h2
  obtain ⟨d0, d1, d2, d3, d4, ed⟩ := list5 h3
  simp only [tapeOf, List.flatMap_cons, List.flatMap_nil, ea, eb, ec, ed]
  kernel_rfl
end
end Mine

end
local macro_rules | `(tactic| walk_at "none here") => `(tactic| skip)
theorem Join.rstcw : True := by
  w_top off
  trivial
section
open PySem PySem.W PyProof.Rows PySem.Calls PySem.Spec
open PyProof.Rows.LCg
set_option maxRecDepth 100000
set_option maxHeartbeats 80000000
namespace Mine
open Plain (rowsT rMax rMin rAbove rPlace)
local macro_rules | `(tactic| k_all) => `(tactic| exact ne_of_all_lt (by assumption))
local macro_rules | `(tactic| walk_at "call ref") => `(tactic| refine halt_here ?_)
theorem law_rings (w : World) {h₀ : Heap} {mean : ExcName → Option Value} {mg mb : Str → Option Value} {L a : Addr} {cd : Value} {base : Heap} {s : Shared} {oN oT oG oL oA oP : Obj} {aS aD aG aL aA aP aN : Addr} {st : Value} {Q : Flow → Shared → Prop}
    {n0 n1 n2 n3 : Int} {w0 w1 w2 w3 : Tok} {c4 : Nat} {o1 o2 o3 o4 o5 : Option Value}
    (T : Top Mine.hd.view_39 (looseW Mine.hd.view_39 [Str.ofString "_norm_version"]) mean mg mb h₀) (X : (Mine.hd.heap_39 w.params).In h₀) (B : Below callerA base [] h₀)
    (F : Fr h₀ L s.heap (kT (bL aS aD aG aL aA aP st) o1 o2 o3 o4 o5))
    (N : News h₀ L s.heap [(aG, oG), (aL, oL), (aA, oA), (aP, oP), (aN, listO #[.int n0 w0, .int n1 w1, .int n2 w2, .int n3 w3] c4), (L + 1 + 1, oT), (L + 1, oN)])
    (hdN : oN.data = .cell (some (.ref aN)))
    (f0 : -99 ≤ n0 ∧ n0 ≤ 99) (f1 : -99 ≤ n1 ∧ n1 ≤ 99) (f2 : -99 ≤ n2 ∧ n2 ≤ 99) (f3 : -99 ≤ n3 ∧ n3 ≤ 99)
    (hk : ∀ h' tk' aR tvals cT rest, PairsAt rest tvals ((waysOf 4).map fun ws => (aboveTo ws [n0, n1, n2, n3] 4, belowTo ws [n0, n1, n2, n3] 4)) →
      Fr h₀ L h' (fun y => if y = Str.ofString "rings" then some (.ref aR) else kT (bL aS aD aG aL aA aP st) o1 o2 o3 o4 o5 y) → News h₀ L h' ((aR, listO (List.toArray tvals) cT) :: (aG, oG) :: (aL, oL) :: (aA, oA) :: (aP, oP) :: (L + 1 + 1, oT) :: (L + 1, oN) :: rest) → Q .next { s with heap := h', toks := tk' }) :
    wpC (lawM w) (lawA L a cd) (exec (lawSt 9) (lawEnv L a cd)) Q (fun _ _ => False) s := by
  revert X
  dsimp only [lawM]
  k_fill
  intro X
  dsimp only [lawSt, lawBody, bodyOf, List.getD_cons_zero, List.getD_cons_succ, lawEnv, lawA, lawScope, scopeOf]
  show wpC _ _ (exec (Stmt.Assign _ _ _) _) _ _ _
  have hnw := news_lt N
  refine wpC_Assign_Name (wpC_Call_Name ?_) (by with_unfolding_all rfl)
  k_steps
  refine wpC_callWith_fnH (wpC_args (wpC_any ?_) rfl)
  k_steps
  refine ⟨⟨_, _, (X.keeps F.keep) _ _ (by k_is), rfl⟩, ?_⟩
  have N1 : News h₀ L s.heap ((aN, listO #[.int n0 w0, .int n1 w1, .int n2 w2, .int n3 w3] c4) :: [(aG, oG), (aL, oL), (aA, oA), (aP, oP), (L + 1 + 1, oT), (L + 1, oN)]) := fun p hp => N p (by
    simp only [List.mem_cons, List.not_mem_nil, or_false] at hp ⊢
    rcases hp with h | h | h | h | h | h | h
    · exact .inr (.inr (.inr (.inr (.inl h))))
    · exact .inl h
    · exact .inr (.inl h)
    · exact .inr (.inr (.inl h))
    · exact .inr (.inr (.inr (.inl h)))
    · exact .inr (.inr (.inr (.inr (.inr (.inl h)))))
    · exact .inr (.inr (.inr (.inr (.inr (.inr h))))))
  refine' rings_ctr w aN n0 n1 n2 n3 w0 w1 w2 w3 c4 _ f0 f1 f2 f3 _ _ _ _ _ _ _ _ _ _ _ _ _ _ _ _ _ _ _ _ _ _ B F X N1 T rfl (by decide) (by decide) ?_
  rintro v h' tk' own ⟨aR, tvals, cT, rest, rfl, rfl, hps⟩ F2 N2
  clear F N N1
  k_steps
  rename (News h₀ L _ _) => N3
  rename (Fr h₀ L _ _) => F3
  refine hk _ _ aR tvals cT rest hps F3 fun p hp => N3 p ?_
  simp only [List.mem_cons, List.mem_append, List.cons_append, List.not_mem_nil, or_false] at hp ⊢
  rcases hp with h | h | h | h | h | h | h | h
  · exact .inl h
  · exact .inr (.inr (.inr (.inl h)))
  · exact .inr (.inr (.inr (.inr (.inl h))))
  · exact .inr (.inr (.inr (.inr (.inr (.inl h)))))
  · exact .inr (.inr (.inr (.inr (.inr (.inr (.inl h))))))
  · exact .inr (.inr (.inr (.inr (.inr (.inr (.inr (.inl h)))))))
  · exact .inr (.inr (.inr (.inr (.inr (.inr (.inr (.inr h)))))))
  · exact .inr (.inl h)
theorem law_same (w : World) {h₀ : Heap} {mean : ExcName → Option Value} {mg mb : Str → Option Value} {L a : Addr} {cd : Value} {base : Heap} {s : Shared} {oN oT : Obj} {aS aD aG aL aA aP : Addr} {Q : Flow → Shared → Prop}
    {x0 x1 x2 x3 : Str} {m0 m1 m2 m3 : Int} {ts tt : Tok} {o1 o2 o3 o4 o5 o6 : Option Value} {news : List (Addr × Obj)}
    (T : Top Mine.hd.view_39 (looseW Mine.hd.view_39 [Str.ofString "_norm_version"]) mean mg mb h₀) (X : (Mine.hd.heap_39 w.params).In h₀) (B : Below callerA base [] h₀)
    (F : Fr h₀ L s.heap (fun y => if y = Str.ofString "rings" then o6 else kT (bL aS aD aG aL aA aP (.bytes (tapeOf [x0, x1, x2, x3]) ts)) o1 o2 o3 o4 o5 y))
    (N : News h₀ L s.heap ((L + 1 + 1, oT) :: (L + 1, oN) :: news))
    (hdT : oT.data = .cell (some (.bytes (tapeOf [x0, x1, x2, x3]) tt)))
    (k0 : CellOk x0 m0) (k1 : CellOk x1 m1) (k2 : CellOk x2 m2) (k3 : CellOk x3 m3)
    (hk : ∀ h' tk', Fr h₀ L h' (fun y => if y = Str.ofString "rings" then o6 else kT (bL aS aD aG aL aA aP (.bytes (tapeOf [x0, x1, x2, x3]) ts)) o1 o2 o3 o4 o5 y) → News h₀ L h' ((L + 1 + 1, oT) :: (L + 1, oN) :: news) → Q .next { s with heap := h', toks := tk' }) :
    wpC (lawM w) (lawA L a cd) (exec (lawSt 10) (lawEnv L a cd)) Q (fun _ _ => False) s := by
  revert X
  dsimp only [lawM]
  k_fill
  intro X
  dsimp only [lawSt, lawBody, bodyOf, List.getD_cons_zero, List.getD_cons_succ, lawEnv, lawA, lawScope, scopeOf]
  show wpC _ _ (exec (Stmt.If _ _ _ _) _) _ _ _
  have hnw := news_lt N
  obtain ⟨KS, hb, hKS⟩ : ∃ KS, KBw.bInts (tapeOf [x0, x1, x2, x3]) = KS ∧ KS.length = 20 := ⟨_, rfl, by rw [KBw.ints_length, tape_size (octets_len k0) (octets_len k1) (octets_len k2) (octets_len k3)]⟩
  refine wpC_If (wpC_isTrue_Or ?_)
  refine wpAny_mono (Q := fun b s' => Halt (b = false ∧ ∃ h2 tk2, s' = { s with heap := h2, toks := tk2 } ∧ Fr h₀ L h2 (fun y => if y = Str.ofString "rings" then o6 else kT (bL aS aD aG aL aA aP (.bytes (tapeOf [x0, x1, x2, x3]) ts)) o1 o2 o3 o4 o5 y) ∧ News h₀ L h2 ((L + 1 + 1, oT) :: (L + 1, oN) :: news))) ?_ ?_ (fun _ _ x => x)
  · k_steps
    exact ⟨by decide, _, _, rfl, F, N⟩
  rintro b s' ⟨rfl, h2, tk2, rfl, F2, N2⟩
  rw [if_neg (by decide)]
  refine wpC_allTrue_Or (wpC_any ?_)
  refine wpAny_mono (Q := fun b s' => Halt (b = false ∧ ∃ h3 tk3, s' = { s with heap := h3, toks := tk3 } ∧ Fr h₀ L h3 (fun y => if y = Str.ofString "rings" then o6 else kT (bL aS aD aG aL aA aP (.bytes (tapeOf [x0, x1, x2, x3]) ts)) o1 o2 o3 o4 o5 y) ∧ News h₀ L h3 ((L + 1 + 1, oT) :: (L + 1, oN) :: news))) ?_ ?_ (fun _ _ x => x)
  · clear F N
    k_steps
    exact ⟨by simp, _, _, rfl, F2, N2⟩
  rintro b s' ⟨rfl, h3, tk3, rfl, F3, N3⟩
  rw [if_neg (by decide)]
  clear F N F2 N2
  refine wpC_allTrue_Or (wpC_isTrue_Compare1 (wpC_Call_Name ?_) (by with_unfolding_all rfl))
  k_steps
  refine wpC_callWith_fnH (wpC_args (wpC_any ?_) rfl)
  k_steps
  refine ⟨⟨_, _, (X.keeps F3.keep) _ _ (by k_is), rfl⟩, ?_⟩
  have sz := tape_size (octets_len k0) (octets_len k1) (octets_len k2) (octets_len k3)
  have tb := tape_back (octets_len k0) (octets_len k1) (octets_len k2) (octets_len k3)
  refine' swap_ctr w _ _ _ 20 _ (by omega) (by decide) (by decide) 1 (by omega) _ _ _ _ _ _ _ _ _ _ _ _ _ _ _ _ _ _ _ _ _ _ B F3 X N3 T rfl (by decide) (by decide) ?_
  rintro v4 h4 tk4 own4 ⟨t4, rfl, rfl⟩ F4 N4
  simp only [List.nil_append] at N4
  clear F3 N3
  have tr := tape_revd (octets_len k0) (octets_len k1) (octets_len k2) (octets_len k3)
  rw [tb]
  k_steps
  refine slice_rev (s := { s with heap := h4, toks := _ }) F4 N4 (by rw [tr, List.size_toArray, List.length_reverse, Array.length_toList, sz]; decide) ?_
  intro h5 t5 k5 F5 N5
  rw [tr]
  clear F4 N4
  k_steps
  · rename (_ = true) => hab
    simp at hab
  · refine wpC_allTrue_nil ?_
    rw [if_neg (by decide)]
    exact wpC_execs_nil (hk _ _ (by assumption) (by assumption))
end Mine

end
local macro_rules | `(tactic| walk_at "none here") => `(tactic| skip)
local macro_rules | `(tactic| walk_at "none here") => `(tactic| skip)
theorem Join.rstcx : True := by
  w_top off
  trivial
section
open PySem PySem.W PyProof.Rows PySem.Calls PySem.Spec
open PyProof.Rows.LCg
set_option maxRecDepth 100000
set_option maxHeartbeats 80000000
namespace Mine
local macro_rules | `(tactic| k_all) => `(tactic| exact ne_of_all_lt (by assumption))
local macro_rules | `(tactic| walk_at "eval ListComp") => `(tactic| refine halt_here ?_)
local macro_rules | `(tactic| walk_at "compareOp NotEq ref ref") => `(tactic| refine halt_here ?_)
local macro_rules | `(tactic| walk_at "compareOp Eq ref ref") => `(tactic| refine halt_here ?_)
local macro_rules | `(tactic| walk_at "call builtin:sorted") => `(tactic| refine halt_here ?_)
theorem PairsAt.get {news : List (Addr × Obj)} {ys : List Value} {ps : List (Int × Int)} (h : PairsAt news ys ps) : ∀ (i : Nat) (v : Value), ys[i]? = some v → ∃ b x y t1 t2, v = .ref b ∧ (b, pairO x y t1 t2) ∈ news ∧ ps[i]? = some (x, y) := by
  induction h with
  | nil => intro i v e; simp at e
  | cons hm _ ih =>
    intro i v e
    match i, e with
    | 0, e => cases e; exact ⟨_, _, _, _, _, rfl, hm, rfl⟩
    | i + 1, e =>
      obtain ⟨b, x, y, t1, t2, e1, e2, e3⟩ := ih i v (by simpa using e)
      exact ⟨b, x, y, t1, t2, e1, e2, by simpa using e3⟩
theorem sorted_same {xs ys ns ms : List Int} (h1 : xs.Perm ns) (h2 : ys.Perm ms) (o1 : xs.Pairwise (· ≤ ·)) (o2 : ys.Pairwise (· ≤ ·)) (h : ns.Perm ms) : xs = ys :=
  ((h1.trans h).trans h2.symm).eq_of_pairwise (fun a b _ _ hab hba => Int.le_antisymm hab hba) o1 o2
theorem law_first_two (w : World) {h₀ : Heap} {mean : ExcName → Option Value} {mg mb : Str → Option Value} {L a : Addr} {cd : Value} {base : Heap} {s : Shared} {oN oT : Obj} {aS aD aG aL aA aP aR : Addr} {st : Value} {Q : Flow → Shared → Prop}
    {o1 o2 o3 o4 o5 : Option Value} {rest : List (Addr × Obj)} {gv lv av pv tvals : List Value} {gc lc ac pc cT : Nat} {gs ls as ps : List Int} {prs : List (Int × Int)}
    (T : Top Mine.hd.view_39 (looseW Mine.hd.view_39 [Str.ofString "_norm_version"]) mean mg mb h₀) (X : (Mine.hd.heap_39 w.params).In h₀) (B : Below callerA base [] h₀)
    (F : Fr h₀ L s.heap (fun y => if y = Str.ofString "rings" then some (.ref aR) else kT (bL aS aD aG aL aA aP st) o1 o2 o3 o4 o5 y))
    (N : News h₀ L s.heap ((aR, listO (List.toArray tvals) cT) :: (aG, listO (List.toArray gv) gc) :: (aL, listO (List.toArray lv) lc) :: (aA, listO (List.toArray av) ac) :: (aP, listO (List.toArray pv) pc) :: (L + 1 + 1, oT) :: (L + 1, oN) :: rest))
    (ig : IntsAre gv gs) (il : IntsAre lv ls) (ia : IntsAre av as) (ip : IntsAre pv ps) (hR : PairsAt rest tvals prs)
    (hap : as.Perm ps) (hll : ls.Perm (prs.map (·.2))) (hlen : prs.length ≤ 30) (hlen2 : as.length ≤ 30) (hlen3 : ps.length ≤ 30) (hlen4 : ls.length ≤ 30)
    (hk : ∀ h' tk', Fr h₀ L h' (fun y => if y = Str.ofString "rings" then some (.ref aR) else kT (bL aS aD aG aL aA aP st) o1 o2 o3 o4 o5 y) → News h₀ L h' ((aR, listO (List.toArray tvals) cT) :: (aG, listO (List.toArray gv) gc) :: rest) → Q .next { s with heap := h', toks := tk' }) :
    wpC (lawM w) (lawA L a cd) (exec (lawSt 11) (lawEnv L a cd)) Q (fun _ _ => False) s := by
  revert X
  dsimp only [lawM]
  k_fill
  intro X
  dsimp only [lawSt, lawBody, bodyOf, List.getD_cons_zero, List.getD_cons_succ, lawEnv, lawA, lawScope, scopeOf]
  show wpC _ _ (exec (Stmt.If _ _ _ _) _) _ _ _
  have hnw := news_lt N
  refine wpC_If (wpC_isTrue_Or ?_)
  k_steps
  show wpAny _ _ _ _ _ _
  refine kso_sorted F N (News.isList N (.tail _ (.tail _ (.tail _ (.head _))))) ia (by omega) ?_
  intro D1 v1 s1 c1 h1 F1 N1 _ i1 _ p1 q1 _
  clear F N
  k_steps
  show wpAny _ _ _ _ _ _
  refine kso_sorted F1 N1 (News.isList N1 (.tail _ (.tail _ (.tail _ (.tail _ (.tail _ (.head _))))))) ip (by omega) ?_
  intro D2 v2 s2 c2 h2 F2 N2 _ i2 _ p2 q2 _
  clear F1 N1
  k_steps
  show wpAny _ _ _ _ _ _
  refine ke_ne_ints (News.isList N2 (.tail _ (.head _))) (News.isList N2 (.head _)) i1 i2 (Nat.le_of_ble_eq_true rfl) ?_
  rw [decide_eq_true (sorted_same p1 p2 q1 q2 hap)]
  refine wpAny_truthy_bool ?_
  rw [if_neg (by decide)]
  have N3 : News h₀ L h2 ((aR, listO (List.toArray tvals) cT) :: (aG, listO (List.toArray gv) gc) :: (aL, listO (List.toArray lv) lc) :: (aA, listO (List.toArray av) ac) :: (aP, listO (List.toArray pv) pc) :: (L + 1 + 1, oT) :: (L + 1, oN) :: rest) := fun p hp => N2 p (.tail _ (.tail _ hp))
  clear N2
  refine wpC_allTrue_Or (wpC_any ?_)
  k_steps
  show wpAny _ _ _ _ _ _
  refine kso_sorted F2 N3 (News.isList N3 (.tail _ (.tail _ (.head _)))) il (by omega) ?_
  intro D4 v4 s4 c4 h4 F4 N4 _ i4 _ p4 q4 _
  clear F2 N3
  k_steps
  show wpAny _ _ _ _ _ _
  have hTl := hR.length
  refine LCg.ListComp_U (cl := []) F4 (by rfl) (by decide) (by rfl) (by decide) (by rfl) ?_
  generalize hLD : ((D4, W.listOf (List.toArray v4) c4) :: (aR, listO (List.toArray tvals) cT) :: (aG, listO (List.toArray gv) gc) :: (aL, listO (List.toArray lv) lc) :: (aA, listO (List.toArray av) ac) :: (aP, listO (List.toArray pv) pc) :: (L + 1 + 1, oT) :: (L + 1, oN) :: rest) = LD at N4
  have mR : (aR, listO (List.toArray tvals) cT) ∈ LD := by rw [← hLD]; exact .tail _ (.head _)
  have mr : ∀ p ∈ rest, p ∈ LD := fun p hp => by rw [← hLD]; exact .tail _ (.tail _ (.tail _ (.tail _ (.tail _ (.tail _ (.tail _ (.tail _ hp)))))))
  refine wpAny_mono (Q := fun v s' => Halt (v = .ref aR ∧ ∃ tk, s' = { s with heap := h4, toks := tk })) ?_ ?_ (fun _ _ x => x)
  · k_steps
    exact ⟨rfl, _, rfl⟩
  rintro v s' ⟨rfl, tkR, rfl⟩
  refine LCg.CompSrc.ledger (its := List.toArray tvals) rfl F4 N4 mR (by rw [List.size_toArray, hTl, sizeLine_eq]; omega) ?_
  intro g
  refine CompRest.ind tvals.length (fun i ys nw => IntsAre ys ((prs.take i).map (·.2)) ∧ nw = LD) ?_ ?_ tvals.length 0 _ _ rfl ⟨.nil, rfl⟩
  · rintro ys nw ⟨e1, e2⟩
    rw [hTl, List.take_length] at e1
    intro D5 h5 tk5 F5 N5 off5
    rw [e2, ← hLD] at N5
    clear F4 N4
    dsimp only
    k_steps
    show wpAny _ _ _ _ _ _
    refine kso_sorted F5 N5 (News.isList N5 (.head _)) e1 (by rw [List.length_map]; omega) ?_
    intro D6 v6 s6 c6 h6 F6 N6 _ i6 _ p6 q6 _
    clear F5 N5
    k_steps
    show wpAny _ _ _ _ _ _
    refine ke_ne_ints (News.isList N6 (.tail _ (.tail _ (.head _)))) (News.isList N6 (.head _)) i4 i6 (Nat.le_of_ble_eq_true rfl) ?_
    rw [decide_eq_true (sorted_same p4 p6 q4 q6 hll)]
    refine wpAny_truthy_bool ?_
    rw [if_neg (by decide)]
    refine wpC_allTrue_nil ?_
    rw [if_neg (by decide)]
    refine wpC_execs_nil (hk _ _ F6 fun p hp => N6 p ?_)
    rcases List.mem_cons.mp hp with rfl | hp
    · exact .tail _ (.tail _ (.tail _ (.head _)))
    rcases List.mem_cons.mp hp with rfl | hp
    · exact .tail _ (.tail _ (.tail _ (.tail _ (.head _))))
    · exact .tail _ (.tail _ (.tail _ (.tail _ (.tail _ (.tail _ (.tail _ (.tail _ (.tail _ (.tail _ hp)))))))))
  rintro i ys nw hi ⟨e1, e2⟩ v I8 oI8 C8 oC8 D8 m8 h8 tk8 E8 hv hNs8 hm8 F8 N8 off8 ne8
  rw [e2] at N8 off8
  obtain ⟨b, x, y, t1, t2, rfl, mb, hxy⟩ := hR.get i v (by simpa using hv)
  have N9 : News h₀ L h8 ((b, pairO x y t1 t2) :: (I8, oI8) :: (C8, oC8) :: (D8, lst ys) :: LD) := fun p hp => by
    rcases List.mem_cons.mp hp with rfl | hp
    · exact N8 _ (.tail _ (.tail _ (.tail _ (mr _ mb))))
    · exact N8 p hp
  have hnw9 := news_lt N9
  clear N8 F4 N4
  k_steps
  refine ⟨h8, _, LD, rfl, F8, fun p hp => N9 p (.tail _ hp), off8, .inr ⟨_, mR, rfl, _, rfl⟩, ?_, rfl⟩
  rw [take_snoc hxy, List.map_append]
  exact e1.append (.cons _ _ .nil)
theorem law_return (w : World) {h₀ : Heap} {mean : ExcName → Option Value} {mg mb : Str → Option Value} {L a : Addr} {cd : Value} {base : Heap} {s : Shared} {aS aD aG aL aA aP aR : Addr} {st : Value} {Q : Flow → Shared → Prop}
    {o1 o2 o3 o4 o5 : Option Value} {rest : List (Addr × Obj)} {gv tvals : List Value} {gc cT : Nat} {gs : List Int} {prs : List (Int × Int)}
    (T : Top Mine.hd.view_39 (looseW Mine.hd.view_39 [Str.ofString "_norm_version"]) mean mg mb h₀) (X : (Mine.hd.heap_39 w.params).In h₀) (B : Below callerA base [] h₀)
    (F : Fr h₀ L s.heap (fun y => if y = Str.ofString "rings" then some (.ref aR) else kT (bL aS aD aG aL aA aP st) o1 o2 o3 o4 o5 y))
    (N : News h₀ L s.heap ((aR, listO (List.toArray tvals) cT) :: (aG, listO (List.toArray gv) gc) :: rest))
    (ig : IntsAre gv gs) (hR : PairsAt rest tvals prs) (hgg : gs.Perm (prs.map (·.1))) (hlen : prs.length ≤ 30) (hlen2 : gs.length ≤ 30)
    (hk : ∀ h' tk' m' , Fr h₀ L h' m' → Q (.ret (.bool true)) { s with heap := h', toks := tk' }) :
    wpAny (lawM w) (lawA L a cd) (exec (lawSt 12) (lawEnv L a cd)) Q (fun _ _ => False) s := by
  revert X
  dsimp only [lawM]
  k_fill
  intro X
  dsimp only [lawSt, lawBody, bodyOf, List.getD_cons_zero, List.getD_cons_succ, lawEnv, lawA, lawScope, scopeOf]
  show wpAny _ _ (exec (Stmt.Return (some _) _) _) _ _ _
  have hnw := news_lt N
  refine wpAny_Return_some ?_
  k_steps
  show wpAny _ _ _ _ _ _
  refine kso_sorted F N (News.isList N (.tail _ (.head _))) ig (by omega) ?_
  intro D4 v4 s4 c4 h4 F4 N4 _ i4 _ p4 q4 _
  clear F N
  k_steps
  show wpAny _ _ _ _ _ _
  have hTl := hR.length
  refine LCg.ListComp_U (cl := []) F4 (by rfl) (by decide) (by rfl) (by decide) (by rfl) ?_
  generalize hLD : ((D4, W.listOf (List.toArray v4) c4) :: (aR, listO (List.toArray tvals) cT) :: (aG, listO (List.toArray gv) gc) :: rest) = LD at N4
  have mR : (aR, listO (List.toArray tvals) cT) ∈ LD := by rw [← hLD]; exact .tail _ (.head _)
  have mr : ∀ p ∈ rest, p ∈ LD := fun p hp => by rw [← hLD]; exact .tail _ (.tail _ (.tail _ hp))
  refine wpAny_mono (Q := fun v s' => Halt (v = .ref aR ∧ ∃ tk, s' = { s with heap := h4, toks := tk })) ?_ ?_ (fun _ _ x => x)
  · k_steps
    exact ⟨rfl, _, rfl⟩
  rintro v s' ⟨rfl, tkR, rfl⟩
  refine LCg.CompSrc.ledger (its := List.toArray tvals) rfl F4 N4 mR (by rw [List.size_toArray, hTl, sizeLine_eq]; omega) ?_
  intro g
  refine CompRest.ind tvals.length (fun i ys nw => IntsAre ys ((prs.take i).map (·.1)) ∧ nw = LD) ?_ ?_ tvals.length 0 _ _ rfl ⟨.nil, rfl⟩
  · rintro ys nw ⟨e1, e2⟩
    rw [hTl, List.take_length] at e1
    intro D5 h5 tk5 F5 N5 off5
    rw [e2, ← hLD] at N5
    clear F4 N4
    dsimp only
    k_steps
    show wpAny _ _ _ _ _ _
    refine kso_sorted F5 N5 (News.isList N5 (.head _)) e1 (by rw [List.length_map]; omega) ?_
    intro D6 v6 s6 c6 h6 F6 N6 _ i6 _ p6 q6 _
    clear F5 N5
    k_steps
    show wpAny _ _ _ _ _ _
    refine ke_eq_ints (News.isList N6 (.tail _ (.tail _ (.head _)))) (News.isList N6 (.head _)) i4 i6 (Nat.le_of_ble_eq_true rfl) ?_
    rw [decide_eq_true (sorted_same p4 p6 q4 q6 hgg)]
    exact hk _ _ _ F6
  rintro i ys nw hi ⟨e1, e2⟩ v I8 oI8 C8 oC8 D8 m8 h8 tk8 E8 hv hNs8 hm8 F8 N8 off8 ne8
  rw [e2] at N8 off8
  obtain ⟨b, x, y, t1, t2, rfl, mb, hxy⟩ := hR.get i v (by simpa using hv)
  have N9 : News h₀ L h8 ((b, pairO x y t1 t2) :: (I8, oI8) :: (C8, oC8) :: (D8, lst ys) :: LD) := fun p hp => by
    rcases List.mem_cons.mp hp with rfl | hp
    · exact N8 _ (.tail _ (.tail _ (.tail _ (mr _ mb))))
    · exact N8 p hp
  have hnw9 := news_lt N9
  clear N8 F4 N4
  k_steps
  refine ⟨h8, _, LD, rfl, F8, fun p hp => N9 p (.tail _ hp), off8, .inr ⟨_, mR, rfl, _, rfl⟩, ?_, rfl⟩
  rw [take_snoc hxy, List.map_append]
  exact e1.append (.cons _ _ .nil)
end Mine

end
local macro_rules | `(tactic| walk_at "none here") => `(tactic| skip)
local macro_rules | `(tactic| walk_at "none here") => `(tactic| skip)
local macro_rules | `(tactic| walk_at "none here") => `(tactic| skip)
local macro_rules | `(tactic| walk_at "none here") => `(tactic| skip)
local macro_rules | `(tactic| walk_at "none here") => `(tactic| skip)
theorem Join.rstcy : True := by
  w_top off
  trivial
section
open PySem PySem.W PyProof.Rows PySem.Calls PySem.Spec
open PyProof.Rows.LCg
set_option maxRecDepth 100000
set_option maxHeartbeats 80000000
namespace Mine
open Plain (rowsT rMax rMin rAbove rPlace)
local macro_rules | `(tactic| k_all) => `(tactic| exact ne_of_all_lt (by assumption))
theorem law_mid (w : World) {h₀ : Heap} {mean : ExcName → Option Value} {mg mb : Str → Option Value} {L a : Addr} {cd : Value} {base : Heap} {s : Shared} {oN oT oM : Obj} {aS aD aN : Addr} {bt : Array UInt8} {tS : Tok} {xT : Option Value} {R : List Stmt} {Q : Flow → Shared → Prop}
    (T : Top Mine.hd.view_39 (looseW Mine.hd.view_39 [Str.ofString "_norm_version"]) mean mg mb h₀) (X : (Mine.hd.heap_39 w.params).In h₀) (B : Below callerA base [] h₀)
    (F : Fr h₀ L s.heap (fun y => if y = Str.ofString "start" then some (.bytes bt tS) else if y = Str.ofString "drawn" then some (.ref aD) else if y = Str.ofString "script" then some (.ref aS) else none))
    (N : News h₀ L s.heap [(aN, oM), (L + 1 + 1, oT), (L + 1, oN)]) (dT : oT.data = .cell xT) (hM : aN ≠ L + 1 + 1)
    (hk : ∀ h' tk' aG aL aA aP oT', oT'.data = .cell (some (.bytes bt tS)) → aN < aG ∧ L + 1 + 1 < aG ∧ L + 1 < aG → aG < aL ∧ aN < aL ∧ L + 1 + 1 < aL ∧ L + 1 < aL → aL < aA ∧ aG < aA ∧ aN < aA ∧ L + 1 + 1 < aA ∧ L + 1 < aA → aA < aP ∧ aL < aP ∧ aG < aP ∧ aN < aP ∧ L + 1 + 1 < aP ∧ L + 1 < aP →
      Fr h₀ L h' (bL aS aD aG aL aA aP (.bytes bt tS)) → News h₀ L h' [(aG, listO #[] 0), (aL, listO #[] 0), (aA, listO #[] 0), (aP, listO #[] 0), (aN, oM), (L + 1 + 1, oT'), (L + 1, oN)] →
      wpC (lawM w) (lawA L a cd) (execs R (lawEnv L a cd)) Q (fun _ _ => False) { s with heap := h', toks := tk' }) :
    wpC (lawM w) (lawA L a cd) (execs (lawSt 3 :: lawSt 4 :: lawSt 5 :: lawSt 6 :: lawSt 7 :: R) (lawEnv L a cd)) Q (fun _ _ => False) s := by
  revert X
  dsimp only [lawM] at hk ⊢
  k_fill
  intro X
  dsimp only [lawSt, lawBody, bodyOf, List.getD_cons_zero, List.getD_cons_succ, lawEnv, lawA, lawScope, scopeOf] at hk ⊢
  have hnw := news_lt N
  refine wpC_execs_cons (wpC_any ?_)
  show wpAny _ _ (exec (Stmt.Assign _ _ _) _) _ _ _
  refine wpAny_Assign_Name ?_ (by with_unfolding_all rfl)
  refine wpAny_mono (Q := fun v s' => Halt (v = .bytes bt tS ∧ ∃ tk, s' = { s with toks := tk })) ?_ ?_ (fun _ _ x => x)
  · k_steps
    exact ⟨rfl, _, rfl⟩
  rintro v s' ⟨rfl, tk1, rfl⟩
  refine' storeX_C (c := L + 1 + 1) F N rfl (UpdF.tail ?a0 (UpdF.head ?a1)) dT ?_
  case a0 => exact hM
  case a1 =>
    intro p hp
    rw [List.mem_singleton.mp hp]
    exact fun q => absurd q (Nat.ne_of_lt (Nat.lt_succ_self _))
  intro h1 oT1 F1 N1 dT1
  clear F N hnw
  dsimp only
  have hnw1 := news_lt N1
  refine wpC_execs_cons (wpC_any ?_)
  show wpAny _ _ (exec (Stmt.Assign _ _ _) _) _ _ _
  k_steps
  refine wpC_execs_cons (wpC_any ?_)
  show wpAny _ _ (exec (Stmt.Assign _ _ _) _) _ _ _
  k_steps
  refine wpC_execs_cons (wpC_any ?_)
  show wpAny _ _ (exec (Stmt.Assign _ _ _) _) _ _ _
  k_steps
  refine wpC_execs_cons (wpC_any ?_)
  show wpAny _ _ (exec (Stmt.Assign _ _ _) _) _ _ _
  k_steps
  rename (News h₀ L _ _) => N9
  rename (Fr h₀ L _ _) => F9
  refine hk _ _ _ _ _ _ _ dT1 (by assumption) (by assumption) (by assumption) (by assumption) F9 fun p hp => N9 p ?_
  simp only [List.mem_cons, List.not_mem_nil, or_false] at hp ⊢
  rcases hp with h | h | h | h | h | h | h
  · exact .inr (.inr (.inr (.inl h)))
  · exact .inr (.inr (.inl h))
  · exact .inr (.inl h)
  · exact .inl h
  · exact .inr (.inr (.inr (.inr (.inl h))))
  · exact .inr (.inr (.inr (.inr (.inr (.inl h)))))
  · exact .inr (.inr (.inr (.inr (.inr (.inr h)))))
theorem lawBody_eq : lawBody = lawSt 0 :: lawSt 1 :: lawSt 2 :: lawSt 3 :: lawSt 4 :: lawSt 5 :: lawSt 6 :: lawSt 7 :: lawSt 8 :: lawSt 9 :: lawSt 10 :: lawSt 11 :: lawSt 12 :: [] := by kernel_rfl
theorem rings_snd (n0 n1 n2 n3 : Int) : ((waysOf 4).map fun ws => (aboveTo ws [n0, n1, n2, n3] 4, belowTo ws [n0, n1, n2, n3] 4)).map (·.2) = Plain.ringsT.map (Plain.ringBelow n0 n1 n2 n3) := by
  rw [List.map_map]; exact rings_below n0 n1 n2 n3
theorem rings_fst (n0 n1 n2 n3 : Int) : ((waysOf 4).map fun ws => (aboveTo ws [n0, n1, n2, n3] 4, belowTo ws [n0, n1, n2, n3] 4)).map (·.1) = Plain.ringsT.map (Plain.ringAbove n0 n1 n2 n3) := by
  rw [List.map_map]; exact rings_above n0 n1 n2 n3
theorem law_whole (w : World) {h₀ : Heap} {mean : ExcName → Option Value} {mg mb : Str → Option Value} {L a aS : Addr} {cd : Value} {base : Heap} {s : Shared} {oN oT : Obj} {xN xT : Option Value} {Q : Flow → Shared → Prop} {vals : List Value} {script : List Int}
    (T : Top Mine.hd.view_39 (looseW Mine.hd.view_39 [Str.ofString "_norm_version"]) mean mg mb h₀) (X : (Mine.hd.heap_39 w.params).In h₀) (B : Below callerA base [] h₀)
    (F : Fr h₀ L s.heap (fun y => if y = Str.ofString "script" then some (.ref aS) else none)) (N : News h₀ L s.heap [(L + 1 + 1, oT), (L + 1, oN)]) (dT : oT.data = .cell xT) (dN : oN.data = .cell xN)
    (hl : h₀.IsList aS vals.toArray) (hI : IntsAre vals script) (hlen : script.length ≤ 63)
    (hk : ∀ h' tk' m', Fr h₀ L h' m' → Q (.ret (.bool true)) { s with heap := h', toks := tk' }) :
    wpC (lawM w) (lawA L a cd) (execs lawBody (lawEnv L a cd)) Q (fun _ _ => False) s := by
  rw [lawBody_eq]
  refine wpC_execs_cons (wpC_any (law_drawn (m := fun _ => none) w T X B F N hl hI hlen ?_))
  intro h1 tk1 aD b0 b1 b2 b3 d0 d1 d2 d3 u0 u1 u2 u3 v0 v1 v2 v3 c p0 q0 p1 q1 p2 q2 p3 q3 F1 NN1
  have k0 := (cell_ok d0 p0 q0).2
  have k1 := (cell_ok d1 p1 q1).2
  have k2 := (cell_ok d2 p2 q2).2
  have k3 := (cell_ok d3 p3 q3).2
  refine wpC_execs_cons (wpC_any (law_numbers w T X B F1 NN1 dN ?_))
  intro h2 tk2 aN oN' dN' F2 NN2
  refine wpC_execs_cons (law_start w T X B F2 NN2 k0 k1 k2 k3 ?_)
  intro h3 tk3 tS F3 NN3
  have neNT : aN ≠ L + 1 + 1 := news_ne NN3 (.head _) (.tail _ (.head _)) (by rw [dT]; intro q; cases q)
  refine law_mid w T X B F3 NN3 dT neNT ?_
  intro h4 tk4 aG aL aA aP oT4 dT4 eG eL eA eP F4 NN4
  obtain ⟨g1, g2, g3⟩ := eG
  obtain ⟨l1, l2, l3, l4⟩ := eL
  obtain ⟨a1, a2, a3, a4, a5⟩ := eA
  obtain ⟨r1, r2, r3, r4, r5, r6⟩ := eP
  refine wpC_execs_cons (law_loop w T X B F4 NN4 dT4 dN' k0 k1 k2 k3 ⟨Nat.ne_of_lt g1, Nat.ne_of_lt l2, Nat.ne_of_lt a3, Nat.ne_of_lt r4⟩ ⟨Nat.ne_of_lt g2, Nat.ne_of_lt l3, Nat.ne_of_lt a4, Nat.ne_of_lt r5⟩ ⟨Nat.ne_of_lt g3, Nat.ne_of_lt l4, Nat.ne_of_lt a5, Nat.ne_of_lt r6⟩ ⟨Nat.ne_of_lt l1, Nat.ne_of_lt a2, Nat.ne_of_lt r3⟩ ⟨Nat.ne_of_lt a1, Nat.ne_of_lt r2⟩ (Nat.ne_of_lt r1) neNT ?_)
  intro h5 tk5 o1 o2 o3 o4 o5 gv lv av pv gc lc ac pc oT5 t5 ig il ia ip dT5 F5 NN5
  refine wpC_execs_cons (law_rings w T X B F5 NN5 dN' k0.fit k1.fit k2.fit k3.fit ?_)
  intro h6 tk6 aR tvals cT rest hps F6 NN6
  refine wpC_execs_cons (law_same (oN := oN') w T X B F6 (news := (aR, listO tvals.toArray cT) :: (aG, listO gv.toArray gc) :: (aL, listO lv.toArray lc) :: (aA, listO av.toArray ac) :: (aP, listO pv.toArray pc) :: rest) ?_ dT5 k0 k1 k2 k3 ?_)
  · intro p hp
    refine NN6 p ?_
    simp only [List.mem_cons] at hp ⊢
    rcases hp with h | h | h | h | h | h | h | h
    · exact .inr (.inr (.inr (.inr (.inr (.inl h)))))
    · exact .inr (.inr (.inr (.inr (.inr (.inr (.inl h))))))
    · exact .inl h
    · exact .inr (.inl h)
    · exact .inr (.inr (.inl h))
    · exact .inr (.inr (.inr (.inl h)))
    · exact .inr (.inr (.inr (.inr (.inl h))))
    · exact .inr (.inr (.inr (.inr (.inr (.inr (.inr h))))))
  intro h7 tk7 F7 NN7
  have rl : rowsT.length = 24 := rfl
  have hpl : ((waysOf 4).map fun ws => (aboveTo ws [num d0, num d1, num d2, num d3] 4, belowTo ws [num d0, num d1, num d2, num d3] 4)).length = 24 := by
    rw [List.length_map]; exact insAll_len 3 _ ▸ rfl
  have pAP : (rowsT.map fun r => ((Plain.onRow (num d0) (num d1) (num d2) (num d3) rAbove r : Nat) : Int)).Perm (rowsT.map fun r => ((Plain.onRow (num d0) (num d1) (num d2) (num d3) rPlace r : Nat) : Int)) := by
    have := (Plain.sparre (num d0) (num d1) (num d2) (num d3)).map (fun n : Nat => (n : Int))
    rwa [List.map_map, List.map_map] at this
  refine wpC_execs_cons (law_first_two (oN := oN') (oT := oT5) (gc := gc) (lc := lc) (ac := ac) (pc := pc) (cT := cT) w T X B F7 (rest := rest) (gv := gv) (lv := lv) (av := av) (pv := pv) (tvals := tvals) ?_ ig il ia ip hps pAP (by rw [rings_snd]; exact Plain.spitzer_min _ _ _ _) (by omega) (by rw [List.length_map]; omega) (by rw [List.length_map]; omega) (by rw [List.length_map]; omega) ?_)
  · intro p hp
    refine NN7 p ?_
    simp only [List.mem_cons] at hp ⊢
    rcases hp with h | h | h | h | h | h | h | h
    · exact .inr (.inr (.inl h))
    · exact .inr (.inr (.inr (.inl h)))
    · exact .inr (.inr (.inr (.inr (.inl h))))
    · exact .inr (.inr (.inr (.inr (.inr (.inl h)))))
    · exact .inr (.inr (.inr (.inr (.inr (.inr (.inl h))))))
    · exact .inl h
    · exact .inr (.inl h)
    · exact .inr (.inr (.inr (.inr (.inr (.inr (.inr h))))))
  intro h8 tk8 F8 NN8
  refine wpC_execs_cons (wpC_any (law_return w T X B F8 NN8 ig hps (by rw [rings_fst]; exact Plain.spitzer_max _ _ _ _) (by omega) (by rw [List.length_map]; omega) ?_))
  intro h9 tk9 m9 F9
  exact hk _ _ _ F9
end Mine

end
local macro_rules | `(tactic| walk_at "none here") => `(tactic| skip)
theorem Join.rstcz : True := by
  w_top off
  trivial
open PySem PySem.W PyProof.Rows PySem.Calls PySem.Spec
set_option maxRecDepth 100000
set_option maxHeartbeats 80000000
theorem PySem.Challenge.cw_pk0009_01_holds : PySem.Challenge.rw_pk0009_01.Holds := by
  refine Mine.hd ?_
  k_fill
  intro w s₀ s₁ mg mb G Y fa o pm cd doc dV kV ho hd hcd hD hmg hg args vals as hpre hlay hrd hwl hlo
  have KX := kIn_of Y
  refine Ground.open G ?_
  intro T B D TE TW
  obtain ⟨_, _, M⟩ := bmod_of_top T
  obtain ⟨_, _, he, B0⟩ := based_of_top T rfl hmg ho hd
  have he' : cd = _ := he
  subst he'
  clear he hmg
  wrow_args hpre hlay hrd hwl hlo
  refine Mine.wpC_call ?_
  w_top on
  have K0 := below_caller (Top.heap T)
  have he := Dflts.none hD rfl
  subst he
  have he := Dflts.noKw hD
  subst he
  refine Mine.call_cellsC (by decide) ho (fd_plain hd) (Top.nolimit T) hcd rfl (kinds_of (by kinds_ok)) (by decide) (fun h₁ tk₁ cells F N0 X0 => ?_) rfl rfl rfl
  cells_open X0
  rename (IntsAre _ _) => hI
  rename (Heap.IsList _ _ _) => hl
  rename (News _ _ h₁ _) => N1
  refine Mine.law_whole w T KX K0 (Mine.Fr_eq F (fun y => rfl)) N1 (by assumption) (by assumption) hl hI (by omega) ?_
  intro h' tk' m' F'
  dsimp only
  first
    | (refine GoodW.toG ?_; wrow_close; done)
    | (refine GoodW.toG ?_; k_steps; done)
    | (wrow_closeG; done)
    | (k_steps; done)
