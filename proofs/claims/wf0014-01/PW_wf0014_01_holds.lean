import PyProof.Rows.All
import Wide.All
import OpenK.AllK
import Wide.FinOn
import PySem.Challenge.RW_wf0014_01
set_option Elab.async false
set_option maxRecDepth 100000
set_option compiler.extract_closed false
section
theorem Mine.resetS1 : True := by
  w_top off
  trivial
open PySem PySem.W PyProof.Rows PySem.Calls
open Sem (wp)
set_option Elab.async false
set_option maxRecDepth 100000
set_option maxHeartbeats 2000000
set_option linter.unusedVariables false
namespace Mine
/-- the codes that could hold a bytearray's export on the call stack -/
noncomputable def badIds : List String := Builtin.Bytes.decodersThatHold ++ ["bytearray.__contains__", "bytearray.__mod__", "bytearray.__rmod__", "_struct.pack_into.held", "bytearray.find.held"]
noncomputable def Cl : Code → Prop
  | .builtin id _ => badIds.contains id = false
  | _ => True
noncomputable def OkS (l : List (Code × Pos)) : Prop := ∀ x ∈ l, Cl x.1
/-- as wpAny, over the stacks that hold none of those codes; no exception leaves -/
noncomputable def wpS {α : Type} (M : Model) (A : Around) (t : Sem α) (Q : α → Shared → Prop) (s : Shared) : Prop :=
  ∀ Γ p, Γ.In A → Cl Γ.code → OkS Γ.below → wp M Γ t (fun a _ s' => Q a s') (fun _ _ _ => False) p s
noncomputable def codeS (M : Model) (A : Around) (c : Code) (Q : Flow → Shared → Prop) (s : Shared) : Prop :=
  ∀ Γ p, Γ.code = c → Γ.Below A → OkS Γ.below → wpCode M Γ (fun r s' => ∃ f, r = .ok f ∧ Q f s') p s
section
variable {α β : Type} {M : Model} {A : Around} {s : Shared}
theorem wpS_any {t : Sem α} {Q : α → Shared → Prop} (h : wpAny M A t Q (fun _ _ => False) s) : wpS M A t Q s := fun Γ p hΓ _ _ => h Γ p hΓ
theorem wpS_mono {t : Sem α} {Q Q' : α → Shared → Prop} (h : wpS M A t Q s) (hQ : ∀ a s, Q a s → Q' a s) : wpS M A t Q' s :=
  fun Γ p hΓ hc hb => Sem.wp_mono M Γ t (fun a _ s => hQ a s) (fun _ _ _ h => h) p s (h Γ p hΓ hc hb)
theorem wpS_pure {a : α} {Q : α → Shared → Prop} (h : Q a s) : wpS M A (pure a) Q s := fun _ _ _ _ _ => h
theorem wpS_bind {m : Sem α} {f : α → Sem β} {Q : β → Shared → Prop} (h : wpS M A m (fun a s' => wpS M A (f a) Q s') s) : wpS M A (m >>= f) Q s := fun Γ p hΓ hc hb => by
  rw [Sem.wp_bind']
  exact Sem.wp_mono M Γ m (fun a p' s' h' => h' Γ p' hΓ hc hb) (fun _ _ _ h' => h') p s (h Γ p hΓ hc hb)
theorem wpS_holding {vs : List Value} {m : Sem α} {Q : α → Shared → Prop} (h : wpS M A m Q s) : wpS M A (holding vs m) Q s := fun Γ p hΓ hc hb => by
  rw [Sem.wp_holding]; exact h Γ p hΓ hc hb
theorem wpS_keep {vs : List Value} {m : Sem α} {Q : α → Shared → Prop} (h : wpS M A m Q s) : wpS M A (m.keep vs) Q s := fun Γ p hΓ hc hb => by
  rw [Sem.wp_keep]; exact h Γ p hΓ hc hb
theorem wpS_onRaise {m : Sem α} {g : Value → Sem Unit} {Q : α → Shared → Prop} (h : wpS M A m Q s) : wpS M A (m.onRaise g) Q s := fun Γ p hΓ hc hb => by
  rw [Sem.wp_onRaise]
  exact Sem.wp_mono M Γ m (fun _ _ _ h' => h') (fun _ _ _ h' => h'.elim) p s (h Γ p hΓ hc hb)
theorem wpS_standAt {p' : Pos} {Q : Unit → Shared → Prop} (h : Q () s) : wpS M A (standAt p') Q s := wpS_any (wpAny_standAt h)
theorem wpS_of_eq {t : Sem α} {a : α} {Q : α → Shared → Prop} (e : t = pure a) (h : Q a s) : wpS M A t Q s := e ▸ wpS_pure h
theorem wpS_run {c : Code} {h : Option Value} {Q : Flow → Shared → Prop} (hc : codeS M (A.mark h) c Q s) (hnb : h ≠ some byPass := by intro x; cases x) : wpS M A (run c h) Q s := fun Γ p hΓ hcl hb => by
  rw [Sem.wp_run]
  obtain ⟨r, s', hr, f, rfl, hq⟩ := hc _ p rfl (hΓ.enter c h p hnb) (fun x hx => by
    rcases List.mem_cons.mp hx with rfl | hx
    · exact hcl
    · exact hb x hx)
  exact ⟨_, _, hr, hq⟩
theorem wpS_runValue {c : Code} {Q : Value → Shared → Prop} (hc : codeS M A c (fun f s' => ∃ v, f = .ret v ∧ Q v s') s) : wpS M A (runValue c) Q s := fun Γ p hΓ hcl hb => by
  rw [Sem.wp_runValue]
  obtain ⟨r, s', hr, f, rfl, v, rfl, hq⟩ := hc _ p rfl (hΓ.enter c none p (by intro x; cases x)) (fun x hx => by
    rcases List.mem_cons.mp hx with rfl | hx
    · exact hcl
    · exact hb x hx)
  exact ⟨_, _, hr, hq⟩
theorem wpS_call {f : Value} {pos : List Value} {kw : List (Str × Value)} {Q : Value → Shared → Prop} (hc : codeS M A (.call f ⟨pos, kw⟩) (fun f s' => ∃ v, f = .ret v ∧ Q v s') s) : wpS M A (call f pos kw) Q s := wpS_runValue hc
theorem codeS_any {c : Code} {Q : Flow → Shared → Prop} (h : codeAny M A c (fun r s' => ∃ f, r = .ok f ∧ Q f s') s) : codeS M A c Q s := fun Γ p hc hΓ _ => h Γ p hc hΓ
theorem codeS_mono {c : Code} {Q Q' : Flow → Shared → Prop} (h : codeS M A c Q s) (hQ : ∀ f s, Q f s → Q' f s) : codeS M A c Q' s := fun Γ p hc hΓ hb => by
  obtain ⟨r, s', hr, f, e, hq⟩ := h Γ p hc hΓ hb
  exact ⟨r, s', hr, f, e, hQ _ _ hq⟩
noncomputable def finS (M : Model) (A : Around) (Q : Flow → Shared → Prop) (fin : Fin) (s' : Shared) : Prop := match fin with
  | .done f => Q f s'
  | .again c' => c'.quiet = true ∧ codeS M A c' Q s'
theorem codeS_of_tree {c : Code} {Q : Flow → Shared → Prop} (hcl : Cl c) (h : wpS M (A.under c) (M.den c) (finS M A Q) s) : codeS M A c Q s := fun Γ p hc hΓ hb => by
  rw [wpCode_iff_wp, hc]
  refine Sem.wp_mono M Γ _ (fun fin p' s' h' => ?_) (fun _ _ _ h' => h'.elim) p s (h Γ p (hc ▸ hΓ.in) (hc ▸ hcl) hb)
  cases fin with
  | done f => exact ⟨f, rfl, h'⟩
  | again c' => exact ⟨h'.1, h'.2 (Γ.goto c') p' rfl (hΓ.goto c') hb⟩
theorem execs_consS {env : Env} {st : Stmt} {rest : List Stmt} {Q : Flow → Shared → Prop} (h : wpS M A (exec st env) (fun f s' => match f with | .next => wpS M A (execs rest env) Q s' | f => Q f s') s) : wpS M A (execs (st :: rest) env) Q s := fun Γ p hΓ hc hb => by
  rw [execs_cons, Sem.wp_bind']
  refine Sem.wp_mono M Γ _ (fun f p' s' h' => ?_) (fun _ _ _ h' => h') _ _ (h Γ p hΓ hc hb)
  cases f <;> first | exact h' Γ p' hΓ hc hb | exact h'
end
section
variable {prog : Program} {w : World} {A : Around} {s : Shared}
theorem codeS_func {body : List Stmt} {env : Env} {Q : Flow → Shared → Prop} (h : wpS (model prog w) (A.deeper env) (execs body env) (fun f s' => Q (.ret (match f with | .ret v => v | _ => .none)) s') s) : codeS (model prog w) A (.func body env) Q s := by
  refine codeS_of_tree trivial ?_
  show wpS _ (A.deeper env) (do point; match ← (execs body env).onRaise (leaving env) with | .ret v => ret v | _ => ret .none) _ s
  refine wpS_bind (wpS_any (wpAny_point (wpS_bind (wpS_onRaise (wpS_mono h fun f s' h' => ?_)))))
  cases f <;> exact wpS_pure h'
theorem codeS_call_function {a : Addr} {args : Args} {o : Obj} {fd : FuncData} {body : List Stmt} {Q : Flow → Shared → Prop} (hroom : A.depth < recursionLimit)
    (ho : s.heap.get? a = some o) (hd' : o.data = .func fd) (hco : fd.scope.isCoroutine = false) (hgen : fd.scope.isGenerator = false) (hbody : fd.body = .stmts body) (hcd : s.heap.CodeRec fd.code fd.qualname)
    (h : wpS (model prog w) A.in1 (bindArgs fd args) (fun binds s₁ =>
      wpS (model prog w) A.in1 (newFunctionEnv fd.scope fd.globals fd.closure binds (fd.qualname ++ ".<locals>.") (some a) fd.code none fd.builtins)
        (fun env s₂ => s₂.heap.NoLimit ∧ codeS (model prog w) A (.func body env) Q s₂) s₁) s) :
    codeS (model prog w) A (.call (.ref a) args) Q s := by
  refine codeS_of_tree trivial ?_
  show wpS _ A.in1 (callAny (.ref a) args) _ s
  simp only [callAny]
  refine wpS_bind (wpS_any (wpAny_load ho ?_))
  obtain ⟨c, oc, vs, tq, hc, hoc, hdc, hq⟩ := hcd
  simp only [hd', callFunction, hco, hgen, hbody, hc]
  rw [hc] at h
  refine wpS_bind (m := field (.ref c) 1) (wpS_any (wpAny_field hoc hdc hq ?_))
  refine wpS_bind (wpS_pure ?_)
  exact wpS_bind (wpS_mono h fun binds s₁ h₁ => wpS_bind (wpS_mono h₁ fun env s₂ h₂ => wpS_bind (wpS_any (wpAny_enterFrame h₂.1 hroom (wpS_pure (And.intro rfl h₂.2))))))
end
end Mine

end
section
theorem Mine.resetH1 : True := by
  w_top off
  trivial
open PySem PySem.W PyProof.Rows PySem.Calls
open Sem (wp)
set_option Elab.async false
set_option maxRecDepth 100000
set_option maxHeartbeats 2000000
set_option linter.unusedVariables false
namespace Mine
theorem wp_of_wpS_done {prog : Program} {w : World} {t : Sem Fin} {R : Result → Shared → Prop} {s : Shared}
    (h : wpS (model prog w) callerA t (fun fin s' => ∃ f, fin = .done f ∧ R (.ok f) s') s) (p : Pos) :
    wp (model prog w) ⟨.builtin "claim.caller" {}, none, none, [], none⟩ t (Sem.finPost (model prog w) ⟨.builtin "claim.caller" {}, none, none, [], none⟩ R) (fun e _ s' => R (.error e) s') p s := by
  refine Sem.wp_mono _ _ t (fun fin p' s' h' => ?_) (fun _ _ _ h' => h'.elim) p s (h _ p caller_in (by show badIds.contains "claim.caller" = false; decide) (fun _ hx => nomatch hx))
  obtain ⟨f, rfl, hf⟩ := h'
  exact hf
theorem thread_ends_S {prog : Program} {w : World} {t : Sem Fin} {s : Shared} {R : Result → Shared → Prop} (hreg : s.asleep)
    (h : wpS (model prog w) callerA t (fun fin s' => ∃ f, fin = .done f ∧ (R (.ok f) s' ∧ leftWithCleanup s'.gens = false)) s) :
    ∃ n r s' s'', runN (denote table) prog w n s ⟨t, .builtin "claim.caller" {}, default, []⟩ = .halted (outcomeOf r) s' ∧
      schedN (denote table) prog w n (.single s ⟨t, .builtin "claim.caller" {}, default, []⟩) = .halted (outcomeOf r) s' ∧ s'.forget = s''.forget ∧ R r s'' := by
  obtain ⟨n, r, s₁, s₂, hs, hn, hfo, hR⟩ := wp_halts_full (M := model prog w) (R := R) hreg (wp_of_wpS_done (R := fun r s' => R r s' ∧ leftWithCleanup s'.gens = false) h default)
  exact ⟨n, r, s₂, s₁, hn, hs, hfo, hR⟩
theorem callFrom_of_specS {c : ClaimW} {tree : List Value → Sem Fin} {w : World} {s : Shared} {free : Addr → Prop} {gens : Prop} {kept : Heap → Prop} (hz : s.asleep) (hgens : s.gens = #[])
    (hspec : ∀ args, c.pre args = true → WData.layableAll args = true →
      ∀ ord : List DictEntry → List DictEntry, (∀ l, (ord l).Perm l) →
      ∃ vs s₁, layAllW c.records (classAt s.heap) w.params ord args s = some (vs, s₁) ∧
        wpS (model c.prog w) callerA (tree vs) (fun fin s' => ∃ f, fin = .done f ∧ (c.Ends s args vs s₁ (.ok f) s' ∧ s'.os = s.os ∧ AllBare s'.gens ∧ kept s'.heap)) s₁) :
    c.CallFrom (fun vs => ⟨tree vs, .builtin "claim.caller" {}, default, []⟩) w free gens kept s := by
  intro args hpre hlay ord hord
  obtain ⟨vs, s₁, hlaid, hcode⟩ := hspec args hpre hlay ord hord
  have hal := layAllW_rest _ _ _ hlaid
  obtain ⟨k, r, s', s'', hrun, hsched, hfo, hcase, hos, hkp⟩ := thread_ends_S (prog := c.prog) (w := w) (t := tree vs) (s := s₁)
    (R := fun r s' => c.Ends s args vs s₁ r s' ∧ s'.os = s.os ∧ kept s'.heap)
    (Shared.asleep_of_life hal.2.2.2 hz)
    (wpS_mono hcode (by
      rintro fin s' ⟨f, e, h1, h2, h3, h4⟩
      exact ⟨f, e, ⟨h1, h2, h4⟩, leftWithCleanup_false_of_bare h3⟩))
  obtain ⟨eh, _, _, eo, _⟩ := Shared.forget_eq hfo
  have hcase := hcase.congr eh
  have hkp : kept s'.heap := by first | exact eh ▸ hkp | (rw [eh] at hkp; exact hkp) | (rw [← eh] at hkp; exact hkp)
  rw [← eo] at hos
  have hlife : s'.heap.life = s.heap.life := (runN_life _ _ _ hrun).trans hal.2.2.2
  refine ⟨vs, s₁, hlaid, k, _, s', hsched, ?_, (fun _ i x hx => by rw [hgens] at hx; simp at hx), hkp, by rw [hlife], Shared.rest_eq hos⟩
  rcases hcase with ⟨v, rfl, d1, d2, d3, d4, d5⟩ | ⟨e, ob, cls, rfl, d1, d2, d3, d4, d5⟩
  · exact .inl ⟨v, rfl, d1, d2, d3, fun b o y _ => d4 b o y, d5⟩
  · exact .inr ⟨e, ob, cls, rfl, d1, d2, d3, d4, fun b o y _ => d5 b o y⟩

theorem open_anyS {r : RowW} {run : Value → List Value → Sem Value} {tree : List Value → Sem Fin} {q : Program} {loose defs kps : List Str} {writes : Bool} {Xt : Shared → Bool} {XP : (Str → Option Value) → Heap → Prop} {α : Type} {Yf : Shared → α} {Ya : World → α} {YP : World → Heap → Prop} {N : Nat}
    (left : LeftO r.prog q loose Xt Yf Ya N) (hY : ∀ w s, Yf s = Ya w → YP w s.heap) (hYk : ∀ w h h', YP w h → (∀ b o, h.get? b = some o → h'.get? b = some o) → YP w h') (hX : ∀ s, Xt s = true → XP (s.heap.nsMap mainGlobals) s.heap) (hXk : ∀ mg h h', XP mg h → (∀ b o, h.get? b = some o → h'.get? b = some o) → XP mg h')
    (hRf : ∀ s, Xt s = true → RecFacts r.records s.heap) (hwr : (!writes || r.records.isEmpty) = true) (ok : (chainsOk q && opensWell r.prog && (frees r && r.within.isEmpty)) = true) (hb : r.prog.bare) (hw : r.promised)
    (ht : ∀ vs (w : World) (s : Shared) mg f (Q : Fin → Shared → Prop), s.heap.Ns mainGlobals mg → mg r.name = some f → wpS (model r.prog w) callerA (run f vs) (fun v s' => Q (.done (.ret v)) s') s → wpS (model r.prog w) callerA (tree vs) Q s)
    (pin : ∀ w s, s.heap.isNs mainGlobals = true → Ground q loose [] XP w s (s.heap.nsMap mainGlobals) (s.heap.nsMap builtinsNs) s.heap → ∀ n ∈ defs, isTheDefsW r.prog s.heap n)
    (call : ∀ (w : World) (s₀ s₁ : Shared) (mg mb : Str → Option Value), Ground q loose r.records XP w s₀ mg mb s₁.heap → YP w s₁.heap → ∀ (args : List WData) (vs : List Value) (as : List Addr),
      r.claim.pre args = true → WData.layableAll args = true → Laid r.records w s₀ s₁ args vs as → sysModules < s₀.heap.objs.size → ∃ f, mg r.name = some f ∧
        wpS (model r.prog w) callerA (run f vs) (fun v s' => GoodWG r.claim (classAt s₀.heap) (ExcName.means s₀.heap) args s₁ (.ok (.ret v)) s') s₁) : r.claim.HoldsOpenBy (fun vs => ⟨tree vs, .builtin "claim.caller" {}, default, []⟩) defs kps writes := by
  obtain ⟨ok, k5⟩ := Bool.and_eq_true_iff.mp ok
  obtain ⟨hch, o1⟩ := Bool.and_eq_true_iff.mp ok
  obtain ⟨k5, k6⟩ := Bool.and_eq_true_iff.mp k5
  obtain ⟨hsame, hu, ha, hap, hm⟩ := frees_parts k5
  refine ⟨⟨hb, o1, by show r.makers.map _ = []; rw [hm]; rfl⟩, hw.witness, fun w => ⟨(left.behind hX hch w).1, fun s' hs' => ?_⟩⟩
  obtain ⟨s₀, hf, hg0, s, hT, hz, hgens, hg, G00, y⟩ := (left.behind (XP := fun mg h => XP mg h ∧ RecFacts r.records h) (fun s hs => ⟨hX s hs, hRf s hs⟩) hch w).2 s' hs'
  have G0 : Ground q loose [] XP w s (s.heap.nsMap mainGlobals) (s.heap.nsMap builtinsNs) s.heap := ⟨G00.T, G00.B, G00.D, G00.TE, G00.TD, G00.W, G00.X.1, G00.cls, G00.has, G00.apart, G00.once, G00.K⟩
  have RF := G00.X.2
  have hT' := hT
  refine ⟨s₀, hf, hg0, s, hT, pin w s hg G0, RF.1, RF.2.1, ?_⟩
  have hgens : s.gens = #[] := Array.eq_empty_of_size_eq_zero (beq_iff_eq.mp hgens)
  have G : Ground q loose r.records XP w s _ _ s.heap := RF.ground G0
  refine callFrom_of_specS (c := r.claim) hz hgens fun args hpre hlay ord hord => ?_
  obtain ⟨⟨vs, s₁⟩, hlaid⟩ := Option.isSome_iff_exists.mp (layAllW_isSome (P := w.params) (ord := ord) G.has args r.args s (pre_splitW hpre).1)
  have keeps := layAllW_keeps _ _ _ hlaid
  have hal := layAllW_rest _ _ _ hlaid
  obtain ⟨as, hrd, hin, hold⟩ := reads_layAllW hord _ _ _ hlaid hlay s₁.heap (fun _ _ e => e)
  have L : Laid r.records w s s₁ args vs as := ⟨⟨ord, hord, hlaid⟩, hrd, hin, hold, keeps, hal.1.trans hgens, hal.2.2.1⟩
  have G₁ := G.keeps hXk keeps
  obtain ⟨f, hf, h⟩ := call w s s₁ _ _ G₁ (hYk _ _ _ (hY w s y) keeps) args vs as hpre hlay L G.low
  have hi := ident_freeW hu ha hap
  have hwi : r.claim.within = [] := List.isEmpty_iff.mp k6
  exact ⟨vs, s₁, hlaid, ht vs w s₁ _ f _ G₁.T.g hf (wpS_mono h (fun v s' g => ⟨_, rfl, have z := g.laid (c := r.claim) hsame hwi hi L; ⟨z.1, z.2.1, z.2.2, fun q => ⟨namesKept_of hT' hg kps keeps g.2.1.old, noTable hwr q⟩⟩⟩))⟩

noncomputable abbrev WalkS (q : Program) (loose : List Str) (XP : (Str → Option Value) → Heap → Prop) (YP : World → Heap → Prop) (r : RowW) (d : DefRec) (kwd : List (Str × Expr)) (run : Value → List Value → Sem Value) : Prop :=
  ∀ (w : World) (s₀ s₁ : Shared) (mg mb : Str → Option Value), Ground q loose r.records XP w s₀ mg mb s₁.heap → YP w s₁.heap → ∀ (a : Addr) (o : Obj) (pm cd doc dV kV : Value), s₁.heap.get? a = some o →
    o.data = .func { docDef d.name d.params d.body d.scope pm cd doc with defaults := dV, kwdefaults := kV } → s₁.heap.CodeRec cd d.name → Dflts mg s₁.heap d.params kwd dV kV → mg d.name = some (.ref a) → s₁.gens = #[] →
    ∀ (args : List WData) (vals : List Value) (as : List Addr), r.claim.pre args = true → WData.layableAll args = true → ReadsAllW r.records (classAt s₀.heap) s₁.heap vals args as → WellAll w.params s₁.heap vals args → (∀ a ∈ as, (a == sysModules) = false) →
      wpS (model r.prog w) callerA (run (.ref a) vals) (fun v s' => GoodWG r.claim (classAt s₀.heap) (ExcName.means s₀.heap) args s₁ (.ok (.ret v)) s') s₁
end Mine
namespace Mine.PySem.W
theorem holds_open {r : OpenRow} {q : Program} {loose : List Str} {Xt : Shared → Bool} {XP : (Str → Option Value) → Heap → Prop} {α : Type} {Yf : Shared → α} {Ya : World → α} {YP : World → Heap → Prop} {d : DefRec} {kwd : List (Str × Expr)} {N : Nat}
    (left : ∀ w : World, (openEnds treeTable r.prog w N).map (fun s => (openSeen q loose (importedModules r.prog.main.body) Xt true s, Yf s)) = some (openGood q loose, Ya w)) (hY : ∀ w s, Yf s = Ya w → YP w s.heap) (hYk : ∀ w h h', YP w h → (∀ b o, h.get? b = some o → h'.get? b = some o) → YP w h')
    (hX : ∀ s, Xt s = true → XP (s.heap.nsMap mainGlobals) s.heap) (hXk : ∀ mg h h', XP mg h → (∀ b o, h.get? b = some o → h'.get? b = some o) → XP mg h')
    (hdef : defOf q r.name = some (d, kwd)) (hp : r.prog.theDef r.name = some (d.params, d.body, d.scope)) (hk : kwWritten? d.params.kwonlyargs d.params.kw_defaults = some kwd) (hRf : ∀ s, Xt s = true → RecFacts r.records s.heap) (hwr : (!r.writes || r.records.isEmpty) = true)
    (k1 : r.wellSaid = true) (ok : (chainsOk q && opensWell r.prog && (frees r.toRowW && r.within.isEmpty)) = true) (hb : r.prog.bare) (hw : r.toRowW.promised)
    (call : WalkS q loose XP YP r.toRowW d kwd fun f vs => PySem.call f vs) : r.Holds := by
  refine ⟨k1, hw, open_anyS (r := r.toRowW) (run := fun f vs => PySem.call f vs) (tree := fun vs => do match ← nsGet mainNs r.name with
      | some f => do ret (← PySem.call f vs)
      | none => unsupported "claim.caller:no-such-global") left hY hYk hX hXk hRf hwr ok hb hw
    (fun vs w s mg f Q hg hf h => wpS_bind (wpS_any (wpAny_nsGet hg (by rw [hf]; exact wpS_bind (wpS_mono h (fun _ _ x => wpS_pure x))))))
    (fun w s hg G n hn => ?_) fun w s₀ s₁ mg mb G Y args vs as hpre hlay L low => ?_⟩
  · obtain rfl : n = r.name := by split at hn <;> simp_all
    exact pinned_of_view hg G hdef hp hk
  · obtain ⟨a, o, pm, cd, doc, dV, kV, h1, h2, h3, h4, h5⟩ := G.fn hdef
    exact ⟨.ref a, h1, call w s₀ s₁ mg mb G Y a o pm cd doc dV kV h2 h3 h4 h5 (defOf_name hdef ▸ h1) L.gens args vs as hpre hlay L.reads L.well (L.low low)⟩
end Mine.PySem.W

end
section
theorem Mine.resetHdB : True := by
  w_top off
  trivial
open PySem PySem.W PyProof.Rows
set_option Elab.async false
set_option maxRecDepth 100000
set_option maxHeartbeats 0
namespace Mine
open_top hd for PySem.Challenge.rw_wf0014_01
end Mine

end
local macro_rules | `(tactic| k_all) => `(tactic| assumption)
section
theorem Mine.resetL1 : True := by
  w_top off
  trivial
open PySem PySem.W PyProof.Rows PySem.Calls
set_option Elab.async false
set_option maxRecDepth 100000
set_option maxHeartbeats 8000000
namespace Mine
theorem fillK : (PySem.Challenge.rw_wf0014_01, hd.heap_39) = (PySem.Challenge.rw_wf0014_01, hd.heap_39) := by
  k_fill
  rfl
noncomputable abbrev PR : Program := PySem.Challenge.rw_wf0014_01.row.prog
noncomputable abbrev VW : Program := hd.view_39
noncomputable abbrev TP : Program := topProg
noncomputable abbrev TL : List Str := looseW VW [] ++ (recsOf VW).map (·.name) ++ (litsOf VW).map (·.1) ++ (clssOf VW (looseW VW [])).map (·.name)
noncomputable abbrev kh (w : World) (x : Str) := PyData.keyHash w.params x
noncomputable abbrev lineD (w : World) (t1 t2 t3 t4 u1 u2 : Tok) (n : Int) (st pb : Addr) : List DictEntry :=
  [⟨kh w (Str.ofString "lineno"), .str (Str.ofString "lineno") t1, .int n u1⟩,
   ⟨kh w (Str.ofString "instream"), .str (Str.ofString "instream") t2, .ref st⟩,
   ⟨kh w (Str.ofString "whitespace"), .str (Str.ofString "whitespace") t3, .str (Str.ofString "\n\t\r ") u2⟩,
   ⟨kh w (Str.ofString "pushback"), .str (Str.ofString "pushback") t4, .ref pb⟩]
theorem sz64 {n : Nat} (h : Nat.ble n 64 = true) : n ≤ sizeLine := Nat.le_trans (Nat.le_of_ble_eq_true h) (by rw [sizeLine_eq]; decide)
theorem szA {l : List Value} (h : l.length < 1000) : l.toArray.size ≤ sizeLine := by
  rw [sizeLine_eq, List.size_toArray]; omega
theorem upd_mk {d : Nat} {o o' : Obj} {rest : List (Addr × Obj)} (h : ∀ p ∈ rest, p.1 ≠ d) : Upd d o o' ((d, o) :: rest) ((d, o') :: rest) := Upd.head h
local macro_rules | `(tactic| size_fits) => `(tactic| exact sz64 (by with_unfolding_all rfl))
local macro_rules | `(tactic| size_fits) => `(tactic| exact szA (by assumption))
local macro_rules | `(tactic| walk_at "call builtin:list.append") => `(tactic| (k_here; (try dsimp only [List.cons_append, List.nil_append]); (with_reducible show wpAny _ _ (call (Value.builtin _) [Value.ref _, _]) _ _ _); k_dflt (refine' append_K ?k1 ?k2 ?k3 ?_ ?z; (case k1 => k_asm); (case k2 => k_asm); (case k3 => k_upd); (case z => size_fits); k_whole); intro h' F' N'; (try k_sweep)))
local macro_rules | `(tactic| walk_at "call builtin:list.pop") => `(tactic| (k_here; (try dsimp only [List.cons_append, List.nil_append]); (with_reducible show wpAny _ _ (call (Value.builtin _) [Value.ref _, Value.int _ _]) _ _ _); k_dflt (refine' kl_popAt ?F ?N ?f ?k ?e ?U ?z ?_; (case F => k_asm); (case N => k_asm); (case U => k_upd); (case f => rfl); (case k => rfl); (case e => rfl); (case z => kl_room)); kl_rest; (try k_sweep)))
section
variable {w : World} {mean : ExcName → Option Value} {mg mb : Str → Option Value} {A A₀ : Around} {env : Env} {outer : List Env} {base h₀ : Heap} {L : Addr} {m : Str → Option Value} {s : Shared} {Q E : Value → Shared → Prop}
  {line ld pb st : Nat} {t1 t2 t3 t4 u1 u2 : Tok} {n : Int} {vs : List Value} {k j : Nat} {x : Value} {rest : List (Addr × Obj)}
theorem push_0 (B : Below A₀ base outer h₀) (F : Fr h₀ L s.heap m) (X : (hd.heap_39 w.params).In h₀)
    (N : News h₀ L s.heap ((line, instObj 59 ld) :: (ld, dictOf (lineD w t1 t2 t3 t4 u1 u2 n st pb) k) :: (pb, listOf vs.toArray j) :: rest))
    (T : Top TP TL mean mg mb h₀) (hA : A.frames = some (env :: outer)) (hf : env.frame = some L) (hke : env.scope.kind = .function) (hroom : A.depth < recursionLimit)
    (o2 : pb ≠ line) (o3 : pb ≠ ld) (hr : ∀ p ∈ rest, p.1 ≠ pb) (hvs : vs.length < 1000)
    (hret : ∀ h' tk', Fr h₀ L h' m → News h₀ L h' ((line, instObj 59 ld) :: (ld, dictOf (lineD w t1 t2 t3 t4 u1 u2 n st pb) k) :: (pb, listOf (vs.toArray.push x) (j + 1)) :: rest) → Q .none { s with heap := h', toks := tk' }) :
    wpAny (model PR w) A (call (.ref 56) [.ref line, x]) Q E s := by
  refine wpAny_call ?_
  k_dflt (refine' code_def ?k1 ?k2 ?k3 ?k4 ?k5 ?kA ?kF ?kK ?k6 ?k7 ?k8 ?k9 ?kB ?_ ?c2 ?c3 ?c4 ?c5; (case kA => assumption); (case kF => assumption); (case kK => assumption); (case k1 => k_asm); (case k2 => k_asm); (case k3 => k_asm); (case k4 => k_asm); (case k5 => k_asm); (case k6 => k_is); (case k7 => k_is); (case k8 => assumption); (case k9 => exact BindsTo.of_eq rfl); (case c5 => decide); (case kB => exact locs rfl); (case c2 => exact rfl); (case c3 => exact rfl); (case c4 => exact rfl); k_whole; intro g' L' h' FG' F' N' B' X' T'; (try dsimp only); (try k_fold))
  k_steps
  exact hret _ _ (by assumption) (by assumption)
theorem pop0_K {D : Addr} {news news' : List (Addr × Obj)} {y : Value} {q : List Value} {u : Tok} (F : Fr h₀ L s.heap m) (N : News h₀ L s.heap news) (U : Upd D (listOf (y :: q).toArray j) (listOf q.toArray (j + 1)) news news')
    (hz : (y :: q).length < 1000) (h : ∀ h', Fr h₀ L h' m → News h₀ L h' news' → Q y { s with heap := h' }) : wpAny (model PR w) A (call (.builtin "list.pop") [.ref D, .int 0 u]) Q E s := by
  refine kl_popAt (its := (y :: q).toArray) (k := 0) (p := []) (q := q) F N rfl ?_ rfl U ?_ h
  · rw [List.size_toArray, List.length_cons]; unfold seqIndex?; simp
  · show (y :: q).length ≤ sizeLine
    rw [sizeLine_eq]; omega
local macro_rules | `(tactic| walk_at "call builtin:list.pop") => `(tactic| (k_here; (try dsimp only [List.cons_append, List.nil_append]); (with_reducible show wpAny _ _ (call (Value.builtin _) [Value.ref _, Value.int _ _]) _ _ _); k_dflt (refine' pop0_K ?F ?N ?U ?z ?_; (case F => k_asm); (case N => k_asm); (case U => k_upd); (case z => assumption)); kl_rest; (try k_sweep)))
theorem truthyL {D : Addr} {news : List (Addr × Obj)} {its : List Value} {nn : Nat} {Q : Bool → Shared → Prop} (N : News h₀ L s.heap news) (hm : (D, listOf its.toArray nn) ∈ news) (hz : its.length < 1000) (h : Q (!its.isEmpty) { s with toks := s.toks + 1 + 1 }) :
    wpAny (model PR w) A (truthy (.ref D)) Q E s := by
  refine wpAny_truthy_list (items := its.toArray) ⟨_, N.get hm, rfl, _, rfl⟩ ?_ ?_
  · rw [List.size_toArray]; omega
  · cases its <;> simpa using h
local macro_rules | `(tactic| walk_at "truthy ref") => `(tactic| (k_here; (with_reducible show wpAny _ _ (truthy (Value.ref _)) _ _ _); k_dflt (refine' truthyL ?N ?m ?z ?_; (case N => k_asm); (case m => k_mem); (case z => assumption); k_whole); (try simp only [List.isEmpty_cons, List.isEmpty_nil, Bool.not_false, Bool.not_true])))
theorem get_0 {y : Value} (B : Below A₀ base outer h₀) (F : Fr h₀ L s.heap m) (X : (hd.heap_39 w.params).In h₀)
    (N : News h₀ L s.heap ((line, instObj 59 ld) :: (ld, dictOf (lineD w t1 t2 t3 t4 u1 u2 n st pb) k) :: (pb, listOf (y :: vs).toArray j) :: rest))
    (T : Top TP TL mean mg mb h₀) (hA : A.frames = some (env :: outer)) (hf : env.frame = some L) (hke : env.scope.kind = .function) (hroom : A.depth < recursionLimit)
    (o2 : pb ≠ line) (o3 : pb ≠ ld) (hr : ∀ p ∈ rest, p.1 ≠ pb) (hvs : (y :: vs).length < 1000)
    (hret : ∀ h' tk', Fr h₀ L h' m → News h₀ L h' ((line, instObj 59 ld) :: (ld, dictOf (lineD w t1 t2 t3 t4 u1 u2 n st pb) k) :: (pb, listOf vs.toArray (j + 1)) :: rest) → Q y { s with heap := h', toks := tk' }) :
    wpAny (model PR w) A (call (.ref 49) [.ref line]) Q E s := by
  refine wpAny_call ?_
  k_dflt (refine' code_def ?k1 ?k2 ?k3 ?k4 ?k5 ?kA ?kF ?kK ?k6 ?k7 ?k8 ?k9 ?kB ?_ ?c2 ?c3 ?c4 ?c5; (case kA => assumption); (case kF => assumption); (case kK => assumption); (case k1 => k_asm); (case k2 => k_asm); (case k3 => k_asm); (case k4 => k_asm); (case k5 => k_asm); (case k6 => k_is); (case k7 => k_is); (case k8 => assumption); (case k9 => exact BindsTo.of_eq rfl); (case c5 => decide); (case kB => exact locs rfl); (case c2 => exact rfl); (case c3 => exact rfl); (case c4 => exact rfl); k_whole; intro g' L' h' FG' F' N' B' X' T'; (try dsimp only); (try k_fold))
  k_steps
  exact hret _ _ (by assumption) (by assumption)
end
end Mine

end
section
theorem Mine.resetL2 : True := by
  w_top off
  trivial
open PySem PySem.W PyProof.Rows PySem.Calls
set_option Elab.async false
set_option maxRecDepth 100000
set_option maxHeartbeats 8000000
namespace Mine
theorem fillK2 : (PySem.Challenge.rw_wf0014_01, hd.heap_39) = (PySem.Challenge.rw_wf0014_01, hd.heap_39) := by
  k_fill
  rfl
section
variable {w : World} {mean : ExcName → Option Value} {mg mb : Str → Option Value} {A A₀ : Around} {env : Env} {outer : List Env} {base h₀ : Heap} {L : Addr} {m : Str → Option Value} {s : Shared} {Q E : Value → Shared → Prop}
  {line ld pb st : Nat} {t1 t2 t3 t4 u1 u2 : Tok} {n : Int} {vs : List Value} {k j : Nat} {x : Value} {news news' : List (Addr × Obj)}
theorem news_perm {L : Addr} {h : Heap} {a b : List (Addr × Obj)} (N : News h₀ L h a) (hs : ∀ p ∈ b, p ∈ a) : News h₀ L h b := fun p hp => N p (hs p hp)
noncomputable def pick1 {α : Type} : List α → Nat → List α
  | [], _ => []
  | x :: _, 0 => [x]
  | _ :: l, n + 1 => pick1 l n
noncomputable def pick {α : Type} (a : List α) : List Nat → List α
  | [] => []
  | i :: is => pick1 a i ++ pick a is
theorem pick1_sub {α : Type} : ∀ (a : List α) (i : Nat), ∀ p ∈ pick1 a i, p ∈ a
  | [], _, _, h => h
  | _ :: _, 0, _, h => by rw [List.mem_singleton.mp h]; exact .head _
  | _ :: l, n + 1, p, h => .tail _ (pick1_sub l n p h)
theorem pick_sub {α : Type} (a : List α) : ∀ (is : List Nat), ∀ p ∈ pick a is, p ∈ a
  | [], _, h => nomatch h
  | i :: is, p, h => (List.mem_append.mp h).elim (pick1_sub a i p) (pick_sub a is p)
/-- a ledger's rows by their places, then what is left behind the first k -/
theorem news_pick {L : Addr} {h : Heap} {a b : List (Addr × Obj)} (N : News h₀ L h a) (is : List Nat) (k : Nat) (e : pick a is ++ a.drop k = b := by rfl) : News h₀ L h b :=
  fun p hp => N p ((List.mem_append.mp (e ▸ hp)).elim (pick_sub a is p) (List.mem_of_mem_drop))
/-- the same, with rows behind what is left -/
theorem news_pickA {L : Addr} {h : Heap} {a b : List (Addr × Obj)} (N : News h₀ L h a) (is : List Nat) (k : Nat) (js : List Nat) (e : pick a is ++ (a.drop k ++ pick a js) = b := by rfl) : News h₀ L h b :=
  fun p hp => N p ((List.mem_append.mp (e ▸ hp)).elim (pick_sub a is p) fun hp => (List.mem_append.mp hp).elim List.mem_of_mem_drop (pick_sub a js p))
/-- the same, where what is left ends in rows of its own -/
theorem news_pickB {L : Addr} {h : Heap} {a b r q : List (Addr × Obj)} (N : News h₀ L h a) (k : Nat) (is : List Nat) (e1 : a.drop k = r ++ q := by rfl) (e2 : pick (q ++ a.take k) is ++ r = b := by rfl) : News h₀ L h b :=
  fun p hp => N p ((List.mem_append.mp (e2 ▸ hp)).elim (fun hp => (List.mem_append.mp (pick_sub _ is p hp)).elim (fun hp => List.mem_of_mem_drop (by rw [e1]; exact List.mem_append_right _ hp)) List.mem_of_mem_take)
    fun hp => List.mem_of_mem_drop (by rw [e1]; exact List.mem_append_left _ hp))
/-- the same, with rows of its own ahead and behind -/
theorem news_pickD {L : Addr} {h : Heap} {a b r q : List (Addr × Obj)} (N : News h₀ L h a) (k : Nat) (is js : List Nat) (e1 : a.drop k = r ++ q := by rfl) (e2 : pick (q ++ a.take k) is ++ (r ++ pick (q ++ a.take k) js) = b := by rfl) : News h₀ L h b := by
  have M : ∀ p ∈ q ++ a.take k, p ∈ a := fun p hp => (List.mem_append.mp hp).elim (fun hp => List.mem_of_mem_drop (by rw [e1]; exact List.mem_append_right _ hp)) List.mem_of_mem_take
  exact fun p hp => N p ((List.mem_append.mp (e2 ▸ hp)).elim (fun hp => M p (pick_sub _ is p hp)) fun hp => (List.mem_append.mp hp).elim (fun hp => List.mem_of_mem_drop (by rw [e1]; exact List.mem_append_left _ hp)) fun hp => M p (pick_sub _ js p hp))
/-- the same, where rows at the end are left out -/
theorem news_pickC {L : Addr} {h : Heap} {a b r q : List (Addr × Obj)} (N : News h₀ L h a) (k : Nat) (is : List Nat) (e1 : a.drop k = r ++ q := by rfl) (e2 : pick a is ++ r = b := by rfl) : News h₀ L h b :=
  fun p hp => N p ((List.mem_append.mp (e2 ▸ hp)).elim (pick_sub a is p) fun hp => List.mem_of_mem_drop (by rw [e1]; exact List.mem_append_left _ hp))
theorem news_swap {L : Addr} {h : Heap} {a b : List (Addr × Obj)} (N : News h₀ L h (a ++ b)) : News h₀ L h (b ++ a) := fun p hp => N p (List.mem_append.mpr (List.mem_append.mp hp).symm)
theorem news_end {L : Addr} {h : Heap} {a r q : List (Addr × Obj)} (N : News h₀ L h a) (k : Nat) (e1 : a.drop k = r ++ q := by rfl) : News h₀ L h q := fun p hp => N p (List.mem_of_mem_drop (by rw [e1]; exact List.mem_append_right _ hp))
theorem news_app {L : Addr} {h : Heap} {a b : List (Addr × Obj)} (N : News h₀ L h a) (M : News h₀ L h b) : News h₀ L h (a ++ b) := fun p hp => (List.mem_append.mp hp).elim (N p) (M p)
theorem news_cons {L : Addr} {h : Heap} {a : List (Addr × Obj)} {p : Addr × Obj} (N : ∀ q ∈ [p], h.get? q.1 = some q.2 ∧ q.1 ≠ L ∧ h₀.get? q.1 = none) (M : News h₀ L h a) : News h₀ L h (p :: a) := fun q hq => (List.mem_cons.mp hq).elim (fun e => N q (List.mem_singleton.mpr e)) (M q)
theorem mem_pick {a b : List (Addr × Obj)} (is : List Nat) (k : Nat) (e : pick a is ++ a.drop k = b) : ∀ p ∈ b, p ∈ a :=
  fun p hp => (List.mem_append.mp (e ▸ hp)).elim (pick_sub a is p) (List.mem_of_mem_drop)
theorem ne_n {K : Nat} : ∀ p ∈ ([] : List (Addr × Obj)), p.1 ≠ K := fun _ h => nomatch h
theorem ne_c {K a : Nat} {o : Obj} {l : List (Addr × Obj)} (h : a ≠ K) (t : ∀ p ∈ l, p.1 ≠ K) : ∀ p ∈ (a, o) :: l, p.1 ≠ K := List.forall_mem_cons.mpr ⟨h, t⟩
/-- addresses in their order -/
noncomputable def Chain : List Nat → Prop
  | a :: b :: l => a < b ∧ Chain (b :: l)
  | _ => True
theorem Chain.tl {a : Nat} : ∀ {l : List Nat}, Chain (a :: l) → Chain l
  | [], _ => trivial
  | _ :: _, h => h.2
theorem Chain.hd {a : Nat} : ∀ {l : List Nat}, Chain (a :: l) → ∀ b ∈ l, a < b
  | c :: l, h, b, hb => by
    rcases List.mem_cons.mp hb with rfl | hb
    · exact h.1
    · exact Nat.lt_trans h.1 (Chain.hd h.2 b hb)
theorem chain_lt : ∀ {l : List Nat}, Chain l → ∀ (i j : Nat) {a b : Nat}, (h : Nat.blt i j = true := by rfl) → (ea : pick1 l i = [a] := by rfl) → (eb : pick1 l j = [b] := by rfl) → a < b
  | [], _, _, _, _, _, _, e, _ => nomatch e
  | c :: l, C, 0, 0, _, _, h, _, _ => nomatch h
  | c :: l, C, 0, j + 1, a, b, _, ea, eb => by
    cases ea
    exact C.hd b (pick1_sub l j b (by rw [show pick1 l j = [b] from eb]; exact .head _))
  | c :: l, C, i + 1, 0, _, _, h, _, _ => nomatch h
  | c :: l, C, i + 1, j + 1, a, b, h, ea, eb => chain_lt C.tl i j (Nat.ble_eq_true_of_le (Nat.le_of_succ_le_succ (Nat.le_of_ble_eq_true h))) ea eb
theorem chain_ne {l : List Nat} (C : Chain l) (i j : Nat) {a b : Nat} (h : (Nat.blt i j || Nat.blt j i) = true := by rfl) (ea : pick1 l i = [a] := by rfl) (eb : pick1 l j = [b] := by rfl) : a ≠ b :=
  (Bool.or_eq_true_iff.mp h).elim (fun h => Nat.ne_of_lt (chain_lt C i j h ea eb)) fun h => Nat.ne_of_gt (chain_lt C j i h eb ea)
theorem ne_of_objs {h : Heap} {a b : Nat} {oa ob : Obj} (ha : h.get? a = some oa) (hb : h.get? b = some ob) (e : oa ≠ ob) : a ≠ b := by
  rintro rfl
  rw [ha] at hb
  exact e (Option.some.inj hb)
theorem push_C (B : Below A₀ base outer h₀) (F : Fr h₀ L s.heap m) (X : (hd.heap_39 w.params).In h₀) (N : News h₀ L s.heap news)
    (T : Top TP TL mean mg mb h₀) (hA : A.frames = some (env :: outer)) (hf : env.frame = some L) (hke : env.scope.kind = .function) (hroom : A.depth < recursionLimit)
    (m1 : (line, instObj 59 ld) ∈ news) (m2 : (ld, dictOf (lineD w t1 t2 t3 t4 u1 u2 n st pb) k) ∈ news) (U : Upd pb (listOf vs.toArray j) (listOf (vs ++ [x]).toArray (j + 1)) news news') (hvs : vs.length < 1000)
    (hret : ∀ h' tk', Fr h₀ L h' m → News h₀ L h' news' → Q .none { s with heap := h', toks := tk' }) :
    wpAny (model PR w) A (call (.ref 56) [.ref line, x]) Q E s := by
  obtain ⟨pre, post, rfl, rfl, a, b⟩ := U.split
  have mp : (pb, listOf vs.toArray j) ∈ pre ++ (pb, listOf vs.toArray j) :: post := List.mem_append.mpr (.inr (.head _))
  refine push_0 (rest := pre ++ post) (pb := pb) (vs := vs) (j := j) (ld := ld) (st := st) (t1 := t1) (t2 := t2) (t3 := t3) (t4 := t4) (u1 := u1) (u2 := u2) (n := n) (k := k) B F X (news_perm N ?_) T hA hf hke hroom ?_ ?_ ?_ hvs fun h' tk' F' N' => hret h' tk' F' (news_perm N' ?_)
  · intro p hp
    simp only [List.mem_cons, List.mem_append] at hp
    rcases hp with rfl | rfl | rfl | hp | hp
    · exact m1
    · exact m2
    · exact mp
    · exact List.mem_append.mpr (.inl hp)
    · exact List.mem_append.mpr (.inr (.tail _ hp))
  · exact ne_of_objs (N.get mp) (N.get m1) (by intro e; cases e)
  · exact ne_of_objs (N.get mp) (N.get m2) (fun e => nomatch (congrArg Obj.data e))
  · intro p hp
    rcases List.mem_append.mp hp with hp | hp
    · exact a p hp
    · exact b p hp
  · intro p hp
    rcases List.mem_append.mp hp with hp | hp
    · exact .tail _ (.tail _ (.tail _ (List.mem_append.mpr (.inl hp))))
    · rcases List.mem_cons.mp hp with rfl | hp
      · refine .tail _ (.tail _ ?_)
        rw [show vs.toArray.push x = (vs ++ [x]).toArray by simp]
        exact .head _
      · exact .tail _ (.tail _ (.tail _ (List.mem_append.mpr (.inr hp))))
theorem get_C {y : Value} (B : Below A₀ base outer h₀) (F : Fr h₀ L s.heap m) (X : (hd.heap_39 w.params).In h₀) (N : News h₀ L s.heap news)
    (T : Top TP TL mean mg mb h₀) (hA : A.frames = some (env :: outer)) (hf : env.frame = some L) (hke : env.scope.kind = .function) (hroom : A.depth < recursionLimit)
    (m1 : (line, instObj 59 ld) ∈ news) (m2 : (ld, dictOf (lineD w t1 t2 t3 t4 u1 u2 n st pb) k) ∈ news) (U : Upd pb (listOf (y :: vs).toArray j) (listOf vs.toArray (j + 1)) news news') (hvs : (y :: vs).length < 1000)
    (hret : ∀ h' tk', Fr h₀ L h' m → News h₀ L h' news' → Q y { s with heap := h', toks := tk' }) :
    wpAny (model PR w) A (call (.ref 49) [.ref line]) Q E s := by
  obtain ⟨pre, post, rfl, rfl, a, b⟩ := U.split
  have mp : (pb, listOf (y :: vs).toArray j) ∈ pre ++ (pb, listOf (y :: vs).toArray j) :: post := List.mem_append.mpr (.inr (.head _))
  refine get_0 (rest := pre ++ post) (pb := pb) (vs := vs) (j := j) (ld := ld) (st := st) (t1 := t1) (t2 := t2) (t3 := t3) (t4 := t4) (u1 := u1) (u2 := u2) (n := n) (k := k) B F X (news_perm N ?_) T hA hf hke hroom ?_ ?_ ?_ hvs fun h' tk' F' N' => hret h' tk' F' (news_perm N' ?_)
  · intro p hp
    simp only [List.mem_cons, List.mem_append] at hp
    rcases hp with rfl | rfl | rfl | hp | hp
    · exact m1
    · exact m2
    · exact mp
    · exact List.mem_append.mpr (.inl hp)
    · exact List.mem_append.mpr (.inr (.tail _ hp))
  · exact ne_of_objs (N.get mp) (N.get m1) (by intro e; cases e)
  · exact ne_of_objs (N.get mp) (N.get m2) (fun e => nomatch (congrArg Obj.data e))
  · intro p hp
    rcases List.mem_append.mp hp with hp | hp
    · exact a p hp
    · exact b p hp
  · intro p hp
    rcases List.mem_append.mp hp with hp | hp
    · exact .tail _ (.tail _ (.tail _ (List.mem_append.mpr (.inl hp))))
    · rcases List.mem_cons.mp hp with rfl | hp
      · exact .tail _ (.tail _ (.head _))
      · exact .tail _ (.tail _ (.tail _ (List.mem_append.mpr (.inr hp))))
theorem add_C {a b : Int} {ta tb : Tok} (B : Below A₀ base outer h₀) (F : Fr h₀ L s.heap m) (X : (hd.heap_39 w.params).In h₀) (N : News h₀ L s.heap news)
    (T : Top TP TL mean mg mb h₀) (hA : A.frames = some (env :: outer)) (hf : env.frame = some L) (hke : env.scope.kind = .function) (hroom : A.depth < recursionLimit)
    (hret : ∀ h' tk' t, Fr h₀ L h' m → News h₀ L h' news → Q (.int (a + b) t) { s with heap := h', toks := tk' }) :
    wpAny (model PR w) A (call (.ref 70) [.int a ta, .int b tb]) Q E s := by
  refine wpAny_call ?_
  k_dflt (refine' code_def ?k1 ?k2 ?k3 ?k4 ?k5 ?kA ?kF ?kK ?k6 ?k7 ?k8 ?k9 ?kB ?_ ?c2 ?c3 ?c4 ?c5; (case kA => assumption); (case kF => assumption); (case kK => assumption); (case k1 => k_asm); (case k2 => k_asm); (case k3 => k_asm); (case k4 => k_asm); (case k5 => k_asm); (case k6 => k_is); (case k7 => k_is); (case k8 => assumption); (case k9 => exact BindsTo.of_eq rfl); (case c5 => decide); (case kB => exact locs rfl); (case c2 => exact rfl); (case c3 => exact rfl); (case c4 => exact rfl); k_whole; intro g' L' h' FG' F' N' B' X' T'; (try dsimp only); (try k_fold))
  k_steps
  exact hret _ _ _ (by assumption) (by assumption)
theorem sub_C {a b : Int} {ta tb : Tok} (B : Below A₀ base outer h₀) (F : Fr h₀ L s.heap m) (X : (hd.heap_39 w.params).In h₀) (N : News h₀ L s.heap news)
    (T : Top TP TL mean mg mb h₀) (hA : A.frames = some (env :: outer)) (hf : env.frame = some L) (hke : env.scope.kind = .function) (hroom : A.depth < recursionLimit)
    (hret : ∀ h' tk' t, Fr h₀ L h' m → News h₀ L h' news → Q (.int (a - b) t) { s with heap := h', toks := tk' }) :
    wpAny (model PR w) A (call (.ref 112) [.int a ta, .int b tb]) Q E s := by
  refine wpAny_call ?_
  k_dflt (refine' code_def ?k1 ?k2 ?k3 ?k4 ?k5 ?kA ?kF ?kK ?k6 ?k7 ?k8 ?k9 ?kB ?_ ?c2 ?c3 ?c4 ?c5; (case kA => assumption); (case kF => assumption); (case kK => assumption); (case k1 => k_asm); (case k2 => k_asm); (case k3 => k_asm); (case k4 => k_asm); (case k5 => k_asm); (case k6 => k_is); (case k7 => k_is); (case k8 => assumption); (case k9 => exact BindsTo.of_eq rfl); (case c5 => decide); (case kB => exact locs rfl); (case c2 => exact rfl); (case c3 => exact rfl); (case c4 => exact rfl); k_whole; intro g' L' h' FG' F' N' B' X' T'; (try dsimp only); (try k_fold))
  k_steps
  exact hret _ _ _ (by assumption) (by assumption)
end
end Mine

end
local macro_rules | `(tactic| k_ne) => `(tactic| ((try dsimp only); first | assumption | exact Ne.symm (by assumption)))
section
theorem Mine.resetL5 : True := by
  w_top off
  trivial
open PySem PySem.W PyProof.Rows PySem.Calls
set_option Elab.async false
set_option maxRecDepth 100000
set_option maxHeartbeats 1000000
namespace Mine
theorem fillK5 : (PySem.Challenge.rw_wf0014_01, hd.heap_39) = (PySem.Challenge.rw_wf0014_01, hd.heap_39) := by
  k_fill
  rfl
noncomputable def nth (l : List Stmt) (i : Nat) : Stmt := match l[i]? with | some s => s | none => .Pass ⟨0, 0, 0, 0⟩
noncomputable def topS (i : Nat) : Stmt := nth PySem.Challenge.pw_wf0014_01.main.body i
noncomputable def fnB : Stmt → List Stmt
  | .FunctionDef (body := b) .. => b
  | .For (body := b) .. => b
  | _ => []
noncomputable def fnP : Stmt → Arguments
  | .FunctionDef (args := b) .. => b
  | _ => default
noncomputable def fnS : Stmt → Scope
  | .FunctionDef (scope := b) .. => b
  | _ => default
noncomputable def pieceS : Stmt := nth (fnB (topS 15)) 2
section
variable {w : World} {mean : ExcName → Option Value} {mg mb : Str → Option Value} {A A₀ : Around} {env : Env} {outer : List Env} {base h₀ : Heap} {L : Addr} {m : Str → Option Value} {s : Shared} {Q E : Value → Shared → Prop}
  {pc cs sg cc : Nat} {n : Int} {vs : List Value} {k j : Nat} {x : Value} {news news' rest : List (Addr × Obj)} {qual : Str} {doc md ct : Value} {oc : Obj}
theorem popLast_K {D : Addr} {y : Value} {p : List Value} (F : Fr h₀ L s.heap m) (N : News h₀ L s.heap news) (U : Upd D (listOf (p ++ [y]).toArray j) (listOf p.toArray (j + 1)) news news')
    (hz : (p ++ [y]).length < 1000) (h : ∀ h', Fr h₀ L h' m → News h₀ L h' news' → Q y { s with heap := h' }) : wpAny (model PR w) A (call (.builtin "list.pop") [.ref D]) Q E s := by
  refine kl_pop (its := (p ++ [y]).toArray) (p := p) F N ?_ U ?_ h
  · show kl_last (p ++ [y]) = some (p, y)
    clear U hz h
    induction p with
    | nil => rfl
    | cons x r ih =>
      show (match kl_last (r ++ [y]) with | some (p, z) => some (x :: p, z) | none => some ([], x)) = _
      rw [ih]
  · show (p ++ [y]).length ≤ sizeLine
    rw [sizeLine_eq]; omega
theorem isEmpty_snoc {p : List Value} {y : Value} : (p ++ [y]).isEmpty = false := by cases p <;> rfl
local macro_rules | `(tactic| walk_at "call builtin:list.pop") => `(tactic| (k_here; (try dsimp only [List.cons_append, List.nil_append]); (with_reducible show wpAny _ _ (call (Value.builtin _) [Value.ref _]) _ _ _); k_dflt (refine' popLast_K ?F ?N ?U ?z ?_; (case F => k_asm); (case N => k_asm); (case U => k_upd); (case z => assumption)); kl_rest; (try k_sweep)))
local macro_rules | `(tactic| walk_at "truthy ref") => `(tactic| (k_here; (with_reducible show wpAny _ _ (truthy (Value.ref _)) _ _ _); k_dflt (refine' truthyL ?N ?m ?z ?_; (case N => k_asm); (case m => k_mem); (case z => first | assumption | (show (0:Nat) < 1000; decide)); k_whole); (try simp only [isEmpty_snoc, List.isEmpty_cons, List.isEmpty_nil, Bool.not_false, Bool.not_true])))
theorem piece_0 {y : Value} {v1 : Value} (B : Below A₀ base outer h₀) (F : Fr h₀ L s.heap m) (X : (hd.heap_39 w.params).In h₀)
    (N : News h₀ L s.heap ((pc, fnMade (Str.ofString "_law_piece") qual (fnP pieceS) (fnB pieceS) (fnS pieceS) [(Str.ofString "signs", cs)] doc md cc ct) :: (cs, oc) :: (sg, listOf (vs ++ [y]).toArray j) :: rest))
    (T : Top TP TL mean mg mb h₀) (hA : A.frames = some (env :: outer)) (hf : env.frame = some L) (hke : env.scope.kind = .function) (hroom : A.depth < recursionLimit)
    (H : CodeHd base 132 128) (hcd : s.heap.CodeRec (.ref cc) qual) (hoc : oc.data = .cell (some (.ref sg)))
    (o2 : sg ≠ pc) (o3 : sg ≠ cs) (hr : ∀ p ∈ rest, p.1 ≠ sg) (hvs : (vs ++ [y]).length < 1000)
    (hret : ∀ h' tk', Fr h₀ L h' m → News h₀ L h' ((pc, fnMade (Str.ofString "_law_piece") qual (fnP pieceS) (fnB pieceS) (fnS pieceS) [(Str.ofString "signs", cs)] doc md cc ct) :: (cs, oc) :: (sg, listOf vs.toArray (j + 1)) :: rest) → Q y { s with heap := h', toks := tk' }) :
    wpAny (model PR w) A (call (.ref pc) [v1]) Q E s := by
  have eS : fnS pieceS = fnS pieceS := rfl
  conv at eS => { rhs; whnf }
  have eB : fnB pieceS = fnB pieceS := rfl
  conv at eB => { rhs; whnf }
  have eP : fnP pieceS = fnP pieceS := rfl
  conv at eP => { rhs; whnf }
  rw [eS, eB, eP] at N
  simp only [eS, eB, eP] at hret
  clear eS eB eP
  refine wpAny_call ?_
  k_dflt (refine' code_nest ?k1 ?k2 ?k3 ?k4 ?k5 ?kA ?kF ?kK ?k6 ?k7 ?k8 ?k9 ?kB ?_ ?c2 ?c3 ?c4 ?c5; (case kA => assumption); (case kF => assumption); (case kK => assumption); (case k1 => k_asm); (case k2 => k_asm); (case k3 => k_asm); (case k4 => k_asm); (case k5 => k_asm); (case k6 => k_mem); (case k7 => assumption); (case k8 => assumption); (case k9 => exact BindsTo.of_eq rfl); (case c5 => decide); (case kB => exact locs rfl); (case c2 => exact rfl); (case c3 => exact rfl); (case c4 => exact rfl); k_whole; intro g' L' h' FG' F' N' B' X' T'; (try dsimp only); (try k_fold))
  k_steps
  exact hret _ _ (by assumption) (by assumption)
theorem piece_e {v1 : Value} (B : Below A₀ base outer h₀) (F : Fr h₀ L s.heap m) (X : (hd.heap_39 w.params).In h₀)
    (N : News h₀ L s.heap ((pc, fnMade (Str.ofString "_law_piece") qual (fnP pieceS) (fnB pieceS) (fnS pieceS) [(Str.ofString "signs", cs)] doc md cc ct) :: (cs, oc) :: (sg, listOf ([] : List Value).toArray j) :: rest))
    (T : Top TP TL mean mg mb h₀) (hA : A.frames = some (env :: outer)) (hf : env.frame = some L) (hke : env.scope.kind = .function) (hroom : A.depth < recursionLimit)
    (H : CodeHd base 132 128) (hcd : s.heap.CodeRec (.ref cc) qual) (hoc : oc.data = .cell (some (.ref sg)))
    (hret : ∀ h' tk' t, Fr h₀ L h' m → News h₀ L h' ((pc, fnMade (Str.ofString "_law_piece") qual (fnP pieceS) (fnB pieceS) (fnS pieceS) [(Str.ofString "signs", cs)] doc md cc ct) :: (cs, oc) :: (sg, listOf ([] : List Value).toArray j) :: rest) → Q (.str (Str.ofString "") t) { s with heap := h', toks := tk' }) :
    wpAny (model PR w) A (call (.ref pc) [v1]) Q E s := by
  have eS : fnS pieceS = fnS pieceS := rfl
  conv at eS => { rhs; whnf }
  have eB : fnB pieceS = fnB pieceS := rfl
  conv at eB => { rhs; whnf }
  have eP : fnP pieceS = fnP pieceS := rfl
  conv at eP => { rhs; whnf }
  rw [eS, eB, eP] at N
  simp only [eS, eB, eP] at hret
  clear eS eB eP
  refine wpAny_call ?_
  k_dflt (refine' code_nest ?k1 ?k2 ?k3 ?k4 ?k5 ?kA ?kF ?kK ?k6 ?k7 ?k8 ?k9 ?kB ?_ ?c2 ?c3 ?c4 ?c5; (case kA => assumption); (case kF => assumption); (case kK => assumption); (case k1 => k_asm); (case k2 => k_asm); (case k3 => k_asm); (case k4 => k_asm); (case k5 => k_asm); (case k6 => k_mem); (case k7 => assumption); (case k8 => assumption); (case k9 => exact BindsTo.of_eq rfl); (case c5 => decide); (case kB => exact locs rfl); (case c2 => exact rfl); (case c3 => exact rfl); (case c4 => exact rfl); k_whole; intro g' L' h' FG' F' N' B' X' T'; (try dsimp only); (try k_fold))
  k_steps
  exact hret _ _ _ (by assumption) (by assumption)
noncomputable abbrev pieceO (qual : Str) (cs : Addr) (doc md : Value) (cc : Addr) (ct : Value) : Obj := fnMade (Str.ofString "_law_piece") qual (fnP pieceS) (fnB pieceS) (fnS pieceS) [(Str.ofString "signs", cs)] doc md cc ct
theorem piece_C {y v1 : Value} {occ : Obj} {fvs : Array Value} {tq : Tok} (B : Below A₀ base outer h₀) (F : Fr h₀ L s.heap m) (X : (hd.heap_39 w.params).In h₀) (N : News h₀ L s.heap news)
    (T : Top TP TL mean mg mb h₀) (hA : A.frames = some (env :: outer)) (hf : env.frame = some L) (hke : env.scope.kind = .function) (hroom : A.depth < recursionLimit) (H : CodeHd base 132 128)
    (m1 : (pc, pieceO qual cs doc md cc ct) ∈ news) (m2 : (cs, oc) ∈ news) (m3 : (cc, occ) ∈ news) (hocc : occ.data = .fields fvs) (hfv : fvs[1]? = some (.str qual tq)) (hoc : oc.data = .cell (some (.ref sg)))
    (U : Upd sg (listOf (vs ++ [y]).toArray j) (listOf vs.toArray (j + 1)) news news') (hvs : (vs ++ [y]).length < 1000)
    (hret : ∀ h' tk', Fr h₀ L h' m → News h₀ L h' news' → Q y { s with heap := h', toks := tk' }) :
    wpAny (model PR w) A (call (.ref pc) [v1]) Q E s := by
  have hcd : s.heap.CodeRec (.ref cc) qual := codeRec_news N m3 hocc hfv
  obtain ⟨pre, post, rfl, rfl, a, b⟩ := U.split
  have mp : (sg, listOf (vs ++ [y]).toArray j) ∈ pre ++ (sg, listOf (vs ++ [y]).toArray j) :: post := List.mem_append.mpr (.inr (.head _))
  refine piece_0 (rest := pre ++ post) (sg := sg) (vs := vs) (j := j) (cs := cs) (oc := oc) (doc := doc) (md := md) (ct := ct) (qual := qual) (cc := cc) B F X (news_perm N ?_) T hA hf hke hroom H hcd hoc ?_ ?_ ?_ hvs fun h' tk' F' N' => hret h' tk' F' (news_perm N' ?_)
  · intro p hp
    simp only [List.mem_cons, List.mem_append] at hp
    rcases hp with rfl | rfl | rfl | hp | hp
    · exact m1
    · exact m2
    · exact mp
    · exact List.mem_append.mpr (.inl hp)
    · exact List.mem_append.mpr (.inr (.tail _ hp))
  · exact ne_of_objs (N.get mp) (N.get m1) (fun e => nomatch (congrArg Obj.data e))
  · exact ne_of_objs (N.get mp) (N.get m2) (fun e => by
      have e' := congrArg Obj.data e
      rw [hoc] at e'
      cases e')
  · intro p hp
    rcases List.mem_append.mp hp with hp | hp
    · exact a p hp
    · exact b p hp
  · intro p hp
    rcases List.mem_append.mp hp with hp | hp
    · exact .tail _ (.tail _ (.tail _ (List.mem_append.mpr (.inl hp))))
    · rcases List.mem_cons.mp hp with rfl | hp
      · exact .tail _ (.tail _ (.head _))
      · exact .tail _ (.tail _ (.tail _ (List.mem_append.mpr (.inr hp))))
variable {line ld st sd pb pb2 : Nat} {t1 t2 t3 t4 t5 u1 u2 e1 e2 e3 e4 e5 e6 e7 : Tok} {k2 : Nat}
noncomputable abbrev streamD (w : World) (t1 t2 t3 t4 t5 u1 u2 : Tok) (pb pc : Addr) : List DictEntry :=
  [⟨kh w (Str.ofString "lineno"), .str (Str.ofString "lineno") t1, .int 1 u1⟩,
   ⟨kh w (Str.ofString "instream"), .str (Str.ofString "instream") t2, .none⟩,
   ⟨kh w (Str.ofString "whitespace"), .str (Str.ofString "whitespace") t3, .str (Str.ofString "\n\t\r ") u2⟩,
   ⟨kh w (Str.ofString "pushback"), .str (Str.ofString "pushback") t4, .ref pb⟩,
   ⟨kh w (Str.ofString "read"), .str (Str.ofString "read") t5, .ref pc⟩]
local macro_rules | `(tactic| walk_at "call ref") => `(tactic| (k_here; (try dsimp only [List.cons_append, List.nil_append]); (with_reducible show wpAny _ _ (call (Value.ref _) [Value.int _ _]) _ _ _); k_dflt (refine' piece_C ?B ?F ?X ?N ?T ?hA ?hf ?hke ?hr ?H ?m1 ?m2 ?m3 ?ho ?hv ?hc ?U ?hz ?_; (case B => k_asm); (case F => k_asm); (case X => k_asm); (case N => k_asm); (case T => k_asm); (case hA => exact rfl); (case hf => exact rfl); (case hke => exact rfl); (case hr => (simp only [depth_deeper]; omega)); (case H => assumption); (case m1 => k_mem); (case m2 => k_mem); (case m3 => k_mem); (case hc => assumption); (case ho => assumption); (case hv => assumption); (case U => k_upd); (case hz => assumption)); intro h' tk' F' N'; (try k_sweep)))
theorem piece_eC {v1 : Value} {occ : Obj} {fvs : Array Value} {tq : Tok} (B : Below A₀ base outer h₀) (F : Fr h₀ L s.heap m) (X : (hd.heap_39 w.params).In h₀) (N : News h₀ L s.heap news)
    (T : Top TP TL mean mg mb h₀) (hA : A.frames = some (env :: outer)) (hf : env.frame = some L) (hke : env.scope.kind = .function) (hroom : A.depth < recursionLimit) (H : CodeHd base 132 128)
    (m1 : (pc, pieceO qual cs doc md cc ct) ∈ news) (m2 : (cs, oc) ∈ news) (m3 : (cc, occ) ∈ news) (hocc : occ.data = .fields fvs) (hfv : fvs[1]? = some (.str qual tq)) (hoc : oc.data = .cell (some (.ref sg)))
    (m4 : (sg, listOf ([] : List Value).toArray j) ∈ news)
    (hret : ∀ h' tk' t, Fr h₀ L h' m → News h₀ L h' news → Q (.str (Str.ofString "") t) { s with heap := h', toks := tk' }) :
    wpAny (model PR w) A (call (.ref pc) [v1]) Q E s := by
  have hcd : s.heap.CodeRec (.ref cc) qual := codeRec_news N m3 hocc hfv
  refine piece_e (rest := news) (sg := sg) (j := j) (cs := cs) (oc := oc) (doc := doc) (md := md) (ct := ct) (qual := qual) (cc := cc) B F X (news_perm N ?_) T hA hf hke hroom H hcd hoc fun h' tk' t F' N' => hret h' tk' t F' (news_perm N' fun p hp => .tail _ (.tail _ (.tail _ hp)))
  intro p hp
  simp only [List.mem_cons] at hp
  rcases hp with rfl | rfl | rfl | hp
  · exact m1
  · exact m2
  · exact m4
  · exact hp
local macro_rules | `(tactic| walk_at "call ref") => `(tactic| (k_here; (try dsimp only [List.cons_append, List.nil_append]); (with_reducible show wpAny _ _ (call (Value.ref _) [Value.int _ _]) _ _ _); k_dflt (refine' piece_eC ?B ?F ?X ?N ?T ?hA ?hf ?hke ?hr ?H ?m1 ?m2 ?m3 ?ho ?hv ?hc ?m4 ?_; (case B => k_asm); (case F => k_asm); (case X => k_asm); (case N => k_asm); (case T => k_asm); (case hA => exact rfl); (case hf => exact rfl); (case hke => exact rfl); (case hr => (simp only [depth_deeper]; omega)); (case H => assumption); (case m1 => k_mem); (case m2 => k_mem); (case m3 => k_mem); (case hc => assumption); (case ho => assumption); (case hv => assumption); (case m4 => k_mem)); intro h' tk' t' F' N'; (try k_sweep)))
noncomputable abbrev AA (hnd : Option Value) (dp : Nat) (env : Env) (outer : List Env) (gd : Option (List Code)) (un : Nat) : Around := { handled := hnd, depth := dp, frames := some (env :: outer), guards := gd, units := un }
local macro_rules | `(tactic| walk_at "getMethod ref") => `(tactic| walk_at "last getMethod ref")
theorem read_0 {R : Result → Shared → Prop} {hnd : Option Value} {dp un : Nat} {gd : Option (List Code)} {c : Str} {tc : Tok} {occ : Obj} {fvs : Array Value} {tq : Tok} (B : Below A₀ base outer h₀) (F : Fr h₀ L s.heap m) (X : (hd.heap_39 w.params).In h₀)
    (N : News h₀ L s.heap ((line, instObj 59 ld) :: (ld, dictOf (lineD w t1 t2 t3 t4 u1 u2 n st pb) k) :: (st, instObj 59 sd) :: (sd, dictOf (streamD w e1 e2 e3 e4 e5 e6 e7 pb2 pc) k2) ::
      (pc, pieceO qual cs doc md cc ct) :: (cc, occ) :: (cs, oc) :: (sg, listOf (vs ++ [Value.str c tc]).toArray j) :: rest))
    (T : Top TP TL mean mg mb h₀) (hf : env.frame = some L) (hke : env.scope.kind = .function) (hroom : dp + 8 < recursionLimit)
    (H : CodeHd base 132 128) (hocc : occ.data = .fields fvs) (hfv : fvs[1]? = some (.str qual tq)) (hoc : oc.data = .cell (some (.ref sg)))
    (o2 : sg ≠ line) (o3 : sg ≠ ld) (o4 : sg ≠ st) (o5 : sg ≠ sd) (o6 : sg ≠ pc) (o7 : sg ≠ cs) (o8 : sg ≠ cc) (hr : ∀ p ∈ rest, p.1 ≠ sg) (hvs : (vs ++ [Value.str c tc]).length < 1000)
    (hc : c ≠ Str.ofString "\n")
    (hret : ∀ h' tk', Fr h₀ L h' m → News h₀ L h' ((line, instObj 59 ld) :: (ld, dictOf (lineD w t1 t2 t3 t4 u1 u2 n st pb) k) :: (st, instObj 59 sd) :: (sd, dictOf (streamD w e1 e2 e3 e4 e5 e6 e7 pb2 pc) k2) ::
      (pc, pieceO qual cs doc md cc ct) :: (cc, occ) :: (cs, oc) :: (sg, listOf vs.toArray (j + 1)) :: rest) → R (.ok (.ret (.str c tc))) { s with heap := h', toks := tk' }) :
    codeAny (model PR w) (AA hnd dp env outer gd un) (.call (.ref 42) ⟨[.ref line], []⟩) R s := by
  k_dflt (refine' code_def ?k1 ?k2 ?k3 ?k4 ?k5 ?kA ?kF ?kK ?k6 ?k7 ?k8 ?k9 ?kB ?_ ?c2 ?c3 ?c4 ?c5; (case kA => exact rfl); (case kF => assumption); (case kK => assumption); (case k1 => k_asm); (case k2 => k_asm); (case k3 => k_asm); (case k4 => k_asm); (case k5 => k_asm); (case k6 => k_is); (case k7 => k_is); (case k8 => (dsimp only [AA]; omega)); (case k9 => exact BindsTo.of_eq rfl); (case c5 => decide); (case kB => exact locs rfl); (case c2 => exact rfl); (case c3 => exact rfl); (case c4 => exact rfl); k_whole; intro g' L' h' FG' F' N' B' X' T'; (try dsimp only); (try k_fold))
  k_steps
  · exfalso
    rename_i hq
    exact hc (of_decide_eq_true hq)
  · exact hret _ _ (by assumption) (by assumption)
theorem read_nl {R : Result → Shared → Prop} {hnd : Option Value} {dp un : Nat} {gd : Option (List Code)} {c : Str} {tc : Tok} {occ : Obj} {fvs : Array Value} {tq : Tok} (B : Below A₀ base outer h₀) (F : Fr h₀ L s.heap m) (X : (hd.heap_39 w.params).In h₀)
    (N : News h₀ L s.heap ((line, instObj 59 ld) :: (ld, dictOf (lineD w t1 t2 t3 t4 u1 u2 n st pb) 4) :: (st, instObj 59 sd) :: (sd, dictOf (streamD w e1 e2 e3 e4 e5 e6 e7 pb2 pc) k2) ::
      (pc, pieceO qual cs doc md cc ct) :: (cc, occ) :: (cs, oc) :: (sg, listOf (vs ++ [Value.str c tc]).toArray j) :: rest))
    (T : Top TP TL mean mg mb h₀) (hf : env.frame = some L) (hke : env.scope.kind = .function) (hroom : dp + 8 < recursionLimit)
    (H : CodeHd base 132 128) (hocc : occ.data = .fields fvs) (hfv : fvs[1]? = some (.str qual tq)) (hoc : oc.data = .cell (some (.ref sg)))
    (o2 : sg ≠ line) (o3 : sg ≠ ld) (o4 : sg ≠ st) (o5 : sg ≠ sd) (o6 : sg ≠ pc) (o7 : sg ≠ cs) (o8 : sg ≠ cc) (hr : ∀ p ∈ rest, p.1 ≠ sg) (hvs : (vs ++ [Value.str c tc]).length < 1000)
    (hc : c = Str.ofString "\n") (q1 : ld ≠ line) (q2 : ld ≠ st) (q3 : ld ≠ sd) (q4 : ld ≠ pc) (q5 : ld ≠ cs) (q6 : ld ≠ cc) (hr2 : ∀ p ∈ rest, p.1 ≠ ld)
    (hret : ∀ h' tk' u1, Fr h₀ L h' m → News h₀ L h' ((line, instObj 59 ld) :: (ld, dictOf (lineD w t1 t2 t3 t4 u1 u2 (n + 1) st pb) 4) :: (st, instObj 59 sd) :: (sd, dictOf (streamD w e1 e2 e3 e4 e5 e6 e7 pb2 pc) k2) ::
      (pc, pieceO qual cs doc md cc ct) :: (cc, occ) :: (cs, oc) :: (sg, listOf vs.toArray (j + 1)) :: rest) → R (.ok (.ret (.str c tc))) { s with heap := h', toks := tk' }) :
    codeAny (model PR w) (AA hnd dp env outer gd un) (.call (.ref 42) ⟨[.ref line], []⟩) R s := by
  k_dflt (refine' code_def ?k1 ?k2 ?k3 ?k4 ?k5 ?kA ?kF ?kK ?k6 ?k7 ?k8 ?k9 ?kB ?_ ?c2 ?c3 ?c4 ?c5; (case kA => exact rfl); (case kF => assumption); (case kK => assumption); (case k1 => k_asm); (case k2 => k_asm); (case k3 => k_asm); (case k4 => k_asm); (case k5 => k_asm); (case k6 => k_is); (case k7 => k_is); (case k8 => (dsimp only [AA]; omega)); (case k9 => exact BindsTo.of_eq rfl); (case c5 => decide); (case kB => exact locs rfl); (case c2 => exact rfl); (case c3 => exact rfl); (case c4 => exact rfl); k_whole; intro g' L' h' FG' F' N' B' X' T'; (try dsimp only); (try k_fold))
  k_steps
  · exact hret _ _ _ (by assumption) (by assumption)
  · exfalso
    with_reducible rename (_ == _) = false => hq
    rw [hc] at hq
    exact absurd hq (by decide +kernel)
theorem read_end {R : Result → Shared → Prop} {hnd : Option Value} {dp un : Nat} {gd : Option (List Code)} {occ : Obj} {fvs : Array Value} {tq : Tok} (B : Below A₀ base outer h₀) (F : Fr h₀ L s.heap m) (X : (hd.heap_39 w.params).In h₀)
    (N : News h₀ L s.heap ((line, instObj 59 ld) :: (ld, dictOf (lineD w t1 t2 t3 t4 u1 u2 n st pb) k) :: (st, instObj 59 sd) :: (sd, dictOf (streamD w e1 e2 e3 e4 e5 e6 e7 pb2 pc) k2) ::
      (pc, pieceO qual cs doc md cc ct) :: (cc, occ) :: (cs, oc) :: (sg, listOf ([] : List Value).toArray j) :: rest))
    (T : Top TP TL mean mg mb h₀) (hf : env.frame = some L) (hke : env.scope.kind = .function) (hroom : dp + 8 < recursionLimit)
    (H : CodeHd base 132 128) (hocc : occ.data = .fields fvs) (hfv : fvs[1]? = some (.str qual tq)) (hoc : oc.data = .cell (some (.ref sg)))
    (hret : ∀ h' tk' t, Fr h₀ L h' m → News h₀ L h' ((line, instObj 59 ld) :: (ld, dictOf (lineD w t1 t2 t3 t4 u1 u2 n st pb) k) :: (st, instObj 59 sd) :: (sd, dictOf (streamD w e1 e2 e3 e4 e5 e6 e7 pb2 pc) k2) ::
      (pc, pieceO qual cs doc md cc ct) :: (cc, occ) :: (cs, oc) :: (sg, listOf ([] : List Value).toArray j) :: rest) → R (.ok (.ret (.str (Str.ofString "") t))) { s with heap := h', toks := tk' }) :
    codeAny (model PR w) (AA hnd dp env outer gd un) (.call (.ref 42) ⟨[.ref line], []⟩) R s := by
  k_dflt (refine' code_def ?k1 ?k2 ?k3 ?k4 ?k5 ?kA ?kF ?kK ?k6 ?k7 ?k8 ?k9 ?kB ?_ ?c2 ?c3 ?c4 ?c5; (case kA => exact rfl); (case kF => assumption); (case kK => assumption); (case k1 => k_asm); (case k2 => k_asm); (case k3 => k_asm); (case k4 => k_asm); (case k5 => k_asm); (case k6 => k_is); (case k7 => k_is); (case k8 => (dsimp only [AA]; omega)); (case k9 => exact BindsTo.of_eq rfl); (case c5 => decide); (case kB => exact locs rfl); (case c2 => exact rfl); (case c3 => exact rfl); (case c4 => exact rfl); k_whole; intro g' L' h' FG' F' N' B' X' T'; (try dsimp only); (try k_fold))
  k_steps
  exact hret _ _ _ (by assumption) (by assumption)
end
end Mine

end
section
theorem Mine.resetL6a : True := by
  w_top off
  trivial
open PySem PySem.W PyProof.Rows PySem.Calls
set_option Elab.async false
set_option maxRecDepth 100000
set_option maxHeartbeats 1000000
namespace Mine
theorem owner_ci : Manifest.owners.lookup (String.ofList ['c', 'a', 'l', 'l', 'a', 'b', 'l', 'e', '_', 'i', 't', 'e', 'r', 'a', 't', 'o', 'r']) = some Manifest.sig_callable_iterator := by kernel_rfl
theorem slot_ci_next : Slot "callable_iterator" "__next__" "callable_iterator.__next__" :=
  .of (owner := "callable_iterator") (n := "__next__") (by rw [typeLookup_type, builtinLookup_eq_fast]; kernel_rfl) (by decide +kernel) (by decide +kernel) (by decide +kernel)
    (by first | exact .inl (by decide +kernel) | exact .inr (by decide +kernel)) (by rw [isSubtype_type]; kernel_rfl)
theorem entry_ci_next : entryFor table "callable_iterator.__next__" = some Builtin.«callable_iterator.__next__» := entryFor_of_tree (by kernel_rfl)
theorem args_ci_next (a : Value) : argsOk "callable_iterator.__next__" ⟨[a], []⟩ := by
  unfold argsOk; rw [signature?_of (id := "callable_iterator.__next__") (n := ['_', '_', 't', 'x', 'e', 'n', '_', '_']) (o := ['r', 'o', 't', 'a', 'r', 'e', 't', 'i', '_', 'e', 'l', 'b', 'a', 'l', 'l', 'a', 'c']) (by kernel_rfl) owner_ci]; kernel_rfl
theorem slot_ci_iter : Slot "callable_iterator" "__iter__" "callable_iterator.__iter__" :=
  .of (owner := "callable_iterator") (n := "__iter__") (by rw [typeLookup_type, builtinLookup_eq_fast]; kernel_rfl) (by decide +kernel) (by decide +kernel) (by decide +kernel)
    (by first | exact .inl (by decide +kernel) | exact .inr (by decide +kernel)) (by rw [isSubtype_type]; kernel_rfl)
theorem entry_ci_iter : entryFor table "callable_iterator.__iter__" = some Builtin.«dict_keyiterator.__iter__» :=
  entryFor_alias (id' := "dict_keyiterator.__iter__") (by rw [fastTable_eq_tree]; kernel_rfl) rfl (by decide +kernel) (by rw [fastTable_eq_tree]; kernel_rfl)
theorem args_ci_iter (a : Value) : argsOk "callable_iterator.__iter__" ⟨[a], []⟩ := by
  unfold argsOk; rw [signature?_of (id := "callable_iterator.__iter__") (n := ['_', '_', 'r', 'e', 't', 'i', '_', '_']) (o := ['r', 'o', 't', 'a', 'r', 'e', 't', 'i', '_', 'e', 'l', 'b', 'a', 'l', 'l', 'a', 'c']) (by kernel_rfl) owner_ci]; kernel_rfl
noncomputable abbrev ciObj (q : Addr) (t : Tok) : Obj := { cls := .type "callable_iterator", data := .fields #[.ref q, .str (Str.ofString "") t, .bool false] }
section
variable {prog : Program} {w : World} {A : Around} {E : Value → Shared → Prop} {s : Shared} {it q f : Addr} {t : Tok}
theorem ci_iter {Q : Value → Shared → Prop} (hit : s.heap.get? it = some (ciObj q t)) (h : Q (.ref it) s) : wpAny (model prog w) A (pyIter (.ref it)) Q E s := by
  have hT : s.TypeIs (.ref it) "callable_iterator" := ⟨_, hit, rfl⟩
  refine wpAny_pyIter_slot hT slot_ci_iter (wpAny_call_entry slot_ci_iter hT entry_ci_iter ?_ (args_ci_iter _))
  show wpAny _ _ (ret (.ref it)) _ _ s
  exact wpAny_pure ⟨_, rfl, "callable_iterator", _, hT, slot_ci_next.lookup, h⟩
theorem eqBool_str {a b : Str} {ta tb : Tok} {Q : Bool → Shared → Prop} (h : Q (a == b) s) : wpAny (model prog w) A (eqBool (.str a ta) (.str b tb)) Q E s := by
  unfold eqBool
  refine wpAny_holding ?_
  show wpAny _ _ (if (Value.str a ta == Value.str b tb) = true then _ else _) Q E s
  by_cases hab : (Value.str a ta == Value.str b tb) = true
  · rw [if_pos hab]
    have e : a = b := by have := eq_of_beq hab; injection this
    subst e
    exact wpAny_bind (wpAny_rule (wpAny_pure (by simpa using h)))
  · rw [if_neg hab]
    refine wpAny_bind (wpAny_mono (Q := fun v s' => v = .bool (a == b) ∧ s' = s) (E := fun _ _ => False) (eq_str ⟨rfl, rfl⟩) ?_ ?_)
    · rintro v s' ⟨rfl, rfl⟩
      exact wpAny_truthy_bool h
    · intro _ _ h; exact h.elim
theorem mark_none (A : Around) : A.mark none = A := by cases A; rfl
theorem borrows_meth {x : Addr} {of : Obj} {fd : FuncData} {Q : Bool → Shared → Prop} (hq : s.heap.get? q = some (methodObj (.ref f) (.ref x))) (hf : s.heap.get? f = some of) (hfd : of.data = .func fd) (h : Q true s) :
    wpAny (model prog w) A (borrowsExactly (.ref q)) Q E s := by
  unfold borrowsExactly
  refine wpAny_bind (wpAny_load hq ?_)
  show wpAny _ _ (if (Value.type "method" == Value.type "method") = true then _ else _) _ _ _
  rw [if_pos (by decide)]
  show wpAny _ _ (load f >>= _) _ _ _
  refine wpAny_bind (wpAny_load hf ?_)
  rw [hfd]
  exact wpAny_pure h
theorem ci_next {x : Addr} {of : Obj} {fd : FuncData} {Q : Option Value → Shared → Prop} (hit : s.heap.get? it = some (ciObj q t)) (hq : s.heap.get? q = some (methodObj (.ref f) (.ref x))) (hf : s.heap.get? f = some of) (hfd : of.data = .func fd)
    (hcall : codeAny (model prog w) A.in1 (.call (.ref f) ⟨[.ref x], []⟩) (fun r s' => ∃ c tc, r = .ok (.ret (.str c tc)) ∧ c ≠ Str.ofString "" ∧ s'.heap.get? it = some (ciObj q t) ∧ Q (some (.str c tc)) s') s) :
    wpAny (model prog w) A (pyNext (.ref it)) Q E s := by
  have hT : s.TypeIs (.ref it) "callable_iterator" := ⟨_, hit, rfl⟩
  unfold pyNext
  refine wpAny_bind (wpAny_attempt (wpAny_callSpecial?_slot (name := Str.ofString "__next__") hT slot_ci_next (wpAny_call_entry slot_ci_next hT entry_ci_next ?_ (args_ci_next _))))
  show wpAny _ _ (field (.ref it) 2 >>= _) _ _ s
  refine wpAny_bind (wpAny_field hit rfl (x := .bool false) rfl ?_)
  show wpAny _ _ (field (.ref it) 0 >>= _) _ _ s
  refine wpAny_bind (wpAny_field hit rfl (x := .ref q) rfl ?_)
  refine wpAny_bind (wpAny_attempt ?_)
  unfold callOutOfASlot
  refine wpAny_bind (borrows_meth hq hf hfd ?_)
  rw [if_pos rfl]
  refine PySem.W.X.x_call ?_ (by intro h; cases h)
  rw [mark_none]
  refine method_call hq (codeAny_mono hcall ?_)
  rintro r s' ⟨c, tc, rfl, hc, hit', hQ⟩
  refine wpAny_pure ?_
  show wpAny _ _ (field (.ref it) 2 >>= _) _ _ s'
  refine wpAny_bind (wpAny_field hit' rfl (x := .bool false) rfl ?_)
  show wpAny _ _ (field (.ref it) 1 >>= _) _ _ s'
  refine wpAny_bind (wpAny_field hit' rfl (x := .str (Str.ofString "") t) rfl ?_)
  refine wpAny_bind (wpAny_holding (eqBool_str ?_))
  have e : (Str.ofString "" == c) = false := by
    cases h : (Str.ofString "" == c) with
    | false => rfl
    | true => exact absurd (eq_of_beq h).symm hc
  rw [e]
  first
  | exact wpAny_pure ⟨_, rfl, wpAny_pure hQ⟩
  | exact wpAny_bind (wpAny_pure (wpAny_pure ⟨_, rfl, wpAny_pure hQ⟩))
  | trace_state
theorem kind_iter : builtinKind "iter" = none := by decide +kernel
theorem plain_iter : plainId "iter" = true := by decide +kernel
theorem entry_iter : entryFor table "iter" = some Builtin.«iter» := entryFor_of_tree (by kernel_rfl)
theorem args_iter2 (a b : Value) : argsOk "iter" ⟨[a, b], []⟩ := by unfold argsOk; kernel_rfl
theorem look_mcall : typeLookup (.type "method") "__call__" = pure (some (.builtin "method.__call__")) := by rw [typeLookup_type, builtinLookup_eq_fast]; kernel_rfl
theorem iter2 {x : Addr} {h₀ : Heap} {L : Addr} {m : Str → Option Value} {news : List (Addr × Obj)} {Q : Value → Shared → Prop} (F : Fr h₀ L s.heap m) (N : News h₀ L s.heap news) (hm : (q, methodObj (.ref f) (.ref x)) ∈ news)
    (h : ∀ it h', Fr h₀ L h' m → News h₀ L h' ((it, ciObj q t) :: news) → (∀ p ∈ news, p.1 < it) → Q (.ref it) { s with heap := h' }) :
    wpAny (model prog w) A (call (.builtin "iter") [.ref q, .str (Str.ofString "") t]) Q E s := by
  have hq := N.get hm
  have hT : s.TypeIs (.ref q) "method" := ⟨_, hq, rfl⟩
  refine call_function_entry kind_iter plain_iter entry_iter (args_iter2 _ _) ?_
  unfold Builtin.«iter»
  refine wpAny_bind (wpAny_pure ?_)
  show wpAny _ _ (specialOf (.ref q) _ >>= _) _ _ s
  refine wpAny_bind (wpAny_specialOf hT look_mcall ?_)
  show wpAny _ _ (rule _ >>= _) _ _ s
  refine wpAny_bind (wpAny_rule ?_)
  refine wpAny_bind ?_
  show wpAny _ _ (newObj _ _) _ _ s
  refine wpAny_newObj_type ?_ (by size_fits)
  exact wpAny_pure ⟨_, rfl, h _ _ (F.push _) (N.push F _) fun p hp => Heap.lt_size (N p hp).1⟩
end
end Mine

end
section
theorem Mine.resetL6b : True := by
  w_top off
  trivial
open PySem PySem.W PyProof.Rows PySem.Calls
set_option Elab.async false
set_option maxRecDepth 100000
set_option maxHeartbeats 1000000
namespace Mine
theorem fillK6b : (PySem.Challenge.rw_wf0014_01, hd.heap_39) = (PySem.Challenge.rw_wf0014_01, hd.heap_39) := by
  k_fill
  rfl
noncomputable def clB : Stmt → List Stmt
  | .ClassDef (body := b) .. => b
  | _ => []
noncomputable def ifT : Stmt → List Stmt
  | .If (body := b) .. => b
  | _ => []
noncomputable def ifE : Stmt → List Stmt
  | .If (orelse := b) .. => b
  | _ => []
noncomputable def tokS : Stmt := nth (clB (topS 3)) 2
noncomputable def outerF : Stmt := nth (fnB tokS) 3
noncomputable def quoteB : List Stmt := fnB (nth (ifT (nth (fnB outerF) 1)) 0)
noncomputable def plainB : List Stmt := fnB (nth (ifE (nth (fnB outerF) 1)) 2)
noncomputable abbrev gm (line it : Nat) (ch : Option Value) (tok : Str) (tt : Tok) : Str → Option Value := fun y => if y = Str.ofString "ch" then ch else if y = Str.ofString "token" then some (.str tok tt) else if y = Str.ofString "fiter" then some (.ref it) else if y = Str.ofString "self" then some (.ref line) else none
section
variable {w : World} {mean : ExcName → Option Value} {mg mb : Str → Option Value} {A A₀ : Around} {env : Env} {outer : List Env} {base h₀ : Heap} {L : Addr} {m : Str → Option Value} {s : Shared} {Q E : Value → Shared → Prop}
  {pc cs sg cc : Nat} {n : Int} {vs : List Value} {k j : Nat} {x : Value} {news news' rest : List (Addr × Obj)} {qual : Str} {doc md ct : Value} {oc : Obj}
  {line ld st sd pb pb2 it : Nat} {t1 t2 t3 t4 t5 u1 u2 e1 e2 e3 e4 e5 e6 e7 : Tok} {k2 jp : Nat}
theorem gm_tok {line it : Nat} {ch : Option Value} {tok tok' : Str} {tt tt' : Tok} : (fun y => if y = Str.ofString "token" then some (Value.str tok' tt') else gm line it ch tok tt y) = gm line it ch tok' tt' := by
  funext y
  by_cases h1 : y = Str.ofString "token"
  · subst h1
    rfl
  · simp only [gm, if_neg h1]
theorem gm_ch {line it : Nat} {ch : Option Value} {v : Value} {tok : Str} {tt : Tok} : (fun y => if y = Str.ofString "ch" then some v else gm line it ch tok tt y) = gm line it (some v) tok tt := by
  funext y
  by_cases h1 : y = Str.ofString "ch"
  · simp only [gm, if_pos h1]
  · simp only [gm, if_neg h1]
theorem gm_tokch {line it : Nat} {ch : Option Value} {v : Value} {tok tok' : Str} {tt tt' : Tok} : (fun y => if y = Str.ofString "token" then some (Value.str tok' tt') else if y = Str.ofString "ch" then some v else gm line it ch tok tt y) = gm line it (some v) tok' tt' := by
  rw [show (fun y => if y = Str.ofString "token" then some (Value.str tok' tt') else if y = Str.ofString "ch" then some v else gm line it ch tok tt y) = (fun y => if y = Str.ofString "token" then some (Value.str tok' tt') else gm line it (some v) tok tt y) from by
    funext y
    by_cases h1 : y = Str.ofString "token"
    · simp only [if_pos h1]
    · simp only [if_neg h1]
      exact congrFun gm_ch y]
  exact gm_tok
theorem qbody_d {Q : Flow → Shared → Prop} {E : Value → Shared → Prop} {hnd : Option Value} {dp un : Nat} {gd : Option (List Code)} {d tok : Str} {td tt : Tok} (B : Below A₀ base outer h₀) (X : (hd.heap_39 w.params).In h₀) (T : Top TP TL mean mg mb h₀)
    (F : Fr h₀ L s.heap (gm line it (some (.str d td)) tok tt))
    (N : News h₀ L s.heap ((line, instObj 59 ld) :: (ld, dictOf (lineD w t1 t2 t3 t4 u1 u2 n st pb) 4) :: rest))
    (h1 : (d == Str.ofString "\"") = false) (h2 : (d == Str.ofString "\\") = false) (hts : tok.length + d.length ≤ sizeLine)
    (hret : ∀ h' tk' t', Fr h₀ L h' (gm line it (some (.str d td)) (tok ++ d) t') → News h₀ L h' ((line, instObj 59 ld) :: (ld, dictOf (lineD w t1 t2 t3 t4 u1 u2 n st pb) 4) :: rest) → Q .next { s with heap := h', toks := tk' }) :
    wpAny (model PR w) (AA hnd dp (envOf (Str.ofString "_netrclex.get_token") (fnS tokS) L 49 (.ref 48)) outer gd un) (execs quoteB (envOf (Str.ofString "_netrclex.get_token") (fnS tokS) L 49 (.ref 48))) Q E s := by
  have eS : fnS tokS = fnS tokS := rfl
  conv at eS => { rhs; whnf }
  have eB : quoteB = quoteB := rfl
  conv at eB => { rhs; whnf }
  rw [eS, eB]
  clear eS eB
  k_steps
  (with_reducible rename Fr _ _ _ _ => F9)
  rw [gm_tok] at F9
  exact hret _ _ _ F9 (by assumption)
theorem qbody_e {Q : Flow → Shared → Prop} {E : Value → Shared → Prop} {hnd : Option Value} {dp un : Nat} {gd : Option (List Code)} {d tok : Str} {td tt : Tok} (B : Below A₀ base outer h₀) (X : (hd.heap_39 w.params).In h₀) (T : Top TP TL mean mg mb h₀)
    (F : Fr h₀ L s.heap (gm line it (some (.str d td)) tok tt))
    (N : News h₀ L s.heap ((line, instObj 59 ld) :: (ld, dictOf (lineD w t1 t2 t3 t4 u1 u2 n st pb) 4) :: rest))
    (h1 : (d == Str.ofString "\"") = true)
    (hret : ∀ h' tk', (∃ m', Fr h₀ L h' m') → News h₀ L h' ((line, instObj 59 ld) :: (ld, dictOf (lineD w t1 t2 t3 t4 u1 u2 n st pb) 4) :: rest) → Q (.ret (.str tok tt)) { s with heap := h', toks := tk' }) :
    wpAny (model PR w) (AA hnd dp (envOf (Str.ofString "_netrclex.get_token") (fnS tokS) L 49 (.ref 48)) outer gd un) (execs quoteB (envOf (Str.ofString "_netrclex.get_token") (fnS tokS) L 49 (.ref 48))) Q E s := by
  have eS : fnS tokS = fnS tokS := rfl
  conv at eS => { rhs; whnf }
  have eB : quoteB = quoteB := rfl
  conv at eB => { rhs; whnf }
  rw [eS, eB]
  clear eS eB
  k_steps
  exact hret _ _ ⟨_, by assumption⟩ (by assumption)
theorem pbody_d {Q : Flow → Shared → Prop} {E : Value → Shared → Prop} {hnd : Option Value} {dp un : Nat} {gd : Option (List Code)} {d tok : Str} {td tt : Tok} (B : Below A₀ base outer h₀) (X : (hd.heap_39 w.params).In h₀) (T : Top TP TL mean mg mb h₀)
    (F : Fr h₀ L s.heap (gm line it (some (.str d td)) tok tt))
    (N : News h₀ L s.heap ((line, instObj 59 ld) :: (ld, dictOf (lineD w t1 t2 t3 t4 u1 u2 n st pb) 4) :: rest))
    (h1 : (Builtin.Str.occurrences (Str.ofString "\n\t\r ") d 0 (Str.ofString "\n\t\r ").length 1).isEmpty = true) (h2 : (d == Str.ofString "\\") = false) (hts : tok.length + d.length ≤ sizeLine)
    (hret : ∀ h' tk' t', Fr h₀ L h' (gm line it (some (.str d td)) (tok ++ d) t') → News h₀ L h' ((line, instObj 59 ld) :: (ld, dictOf (lineD w t1 t2 t3 t4 u1 u2 n st pb) 4) :: rest) → Q .next { s with heap := h', toks := tk' }) :
    wpAny (model PR w) (AA hnd dp (envOf (Str.ofString "_netrclex.get_token") (fnS tokS) L 49 (.ref 48)) outer gd un) (execs plainB (envOf (Str.ofString "_netrclex.get_token") (fnS tokS) L 49 (.ref 48))) Q E s := by
  have eS : fnS tokS = fnS tokS := rfl
  conv at eS => { rhs; whnf }
  have eB : plainB = plainB := rfl
  conv at eB => { rhs; whnf }
  rw [eS, eB]
  clear eS eB
  k_steps
  (with_reducible rename Fr _ _ _ _ => F9)
  rw [gm_tok] at F9
  exact hret _ _ _ F9 (by assumption)
theorem pbody_e {Q : Flow → Shared → Prop} {E : Value → Shared → Prop} {hnd : Option Value} {dp un : Nat} {gd : Option (List Code)} {d tok : Str} {td tt : Tok} (B : Below A₀ base outer h₀) (X : (hd.heap_39 w.params).In h₀) (T : Top TP TL mean mg mb h₀)
    (F : Fr h₀ L s.heap (gm line it (some (.str d td)) tok tt))
    (N : News h₀ L s.heap ((line, instObj 59 ld) :: (ld, dictOf (lineD w t1 t2 t3 t4 u1 u2 n st pb) 4) :: rest))
    (h1 : (Builtin.Str.occurrences (Str.ofString "\n\t\r ") d 0 (Str.ofString "\n\t\r ").length 1).isEmpty = false)
    (hret : ∀ h' tk', (∃ m', Fr h₀ L h' m') → News h₀ L h' ((line, instObj 59 ld) :: (ld, dictOf (lineD w t1 t2 t3 t4 u1 u2 n st pb) 4) :: rest) → Q (.ret (.str tok tt)) { s with heap := h', toks := tk' }) :
    wpAny (model PR w) (AA hnd dp (envOf (Str.ofString "_netrclex.get_token") (fnS tokS) L 49 (.ref 48)) outer gd un) (execs plainB (envOf (Str.ofString "_netrclex.get_token") (fnS tokS) L 49 (.ref 48))) Q E s := by
  have eS : fnS tokS = fnS tokS := rfl
  conv at eS => { rhs; whnf }
  have eB : plainB = plainB := rfl
  conv at eB => { rhs; whnf }
  rw [eS, eB]
  clear eS eB
  k_steps
  exact hret _ _ ⟨_, by assumption⟩ (by assumption)
theorem pbody_b {Q : Flow → Shared → Prop} {E : Value → Shared → Prop} {hnd : Option Value} {dp un : Nat} {gd : Option (List Code)} {d tok c : Str} {td tt tc : Tok} {occ : Obj} {fvs : Array Value} {tq : Tok} (B : Below A₀ base outer h₀) (X : (hd.heap_39 w.params).In h₀) (T : Top TP TL mean mg mb h₀)
    (F : Fr h₀ L s.heap (gm line it (some (.str d td)) tok tt))
    (N : News h₀ L s.heap ((line, instObj 59 ld) :: (ld, dictOf (lineD w t1 t2 t3 t4 u1 u2 n st pb) 4) :: (st, instObj 59 sd) :: (sd, dictOf (streamD w e1 e2 e3 e4 e5 e6 e7 pb2 pc) k2) ::
      (pc, pieceO qual cs doc md cc ct) :: (cc, occ) :: (cs, oc) :: (sg, listOf (vs ++ [Value.str c tc]).toArray j) :: rest))
    (hroom : dp + 8 < recursionLimit) (H : CodeHd base 132 128) (hocc : occ.data = .fields fvs) (hfv : fvs[1]? = some (.str qual tq)) (hoc : oc.data = .cell (some (.ref sg)))
    (o2 : sg ≠ line) (o3 : sg ≠ ld) (o4 : sg ≠ st) (o5 : sg ≠ sd) (o6 : sg ≠ pc) (o7 : sg ≠ cs) (o8 : sg ≠ cc) (hr : ∀ p ∈ rest, p.1 ≠ sg) (hvs : (vs ++ [Value.str c tc]).length < 1000) (hc : c ≠ Str.ofString "\n")
    (h1 : (Builtin.Str.occurrences (Str.ofString "\n\t\r ") d 0 (Str.ofString "\n\t\r ").length 1).isEmpty = true) (h2 : (d == Str.ofString "\\") = true) (hts : tok.length + c.length ≤ sizeLine)
    (hret : ∀ h' tk' t', Fr h₀ L h' (gm line it (some (.str c tc)) (tok ++ c) t') → News h₀ L h' ((line, instObj 59 ld) :: (ld, dictOf (lineD w t1 t2 t3 t4 u1 u2 n st pb) 4) :: (st, instObj 59 sd) :: (sd, dictOf (streamD w e1 e2 e3 e4 e5 e6 e7 pb2 pc) k2) ::
      (pc, pieceO qual cs doc md cc ct) :: (cc, occ) :: (cs, oc) :: (sg, listOf vs.toArray (j + 1)) :: rest) → Q .next { s with heap := h', toks := tk' }) :
    wpAny (model PR w) (AA hnd dp (envOf (Str.ofString "_netrclex.get_token") (fnS tokS) L 49 (.ref 48)) outer gd un) (execs plainB (envOf (Str.ofString "_netrclex.get_token") (fnS tokS) L 49 (.ref 48))) Q E s := by
  have eS : fnS tokS = fnS tokS := rfl
  conv at eS => { rhs; whnf }
  have eB : plainB = plainB := rfl
  conv at eB => { rhs; whnf }
  rw [eS, eB]
  clear eS eB
  k_steps
  dsimp only [List.nil_append, List.cons_append, List.append_nil]
  refine wpAny_call (read_0 (vs := vs) (c := c) (tc := tc) (j := j) B ‹_› X ‹_› T ?_ ?_ hroom H hocc hfv hoc o2 o3 o4 o5 o6 o7 o8 hr hvs hc ?_)
  · exact rfl
  · exact rfl
  intro h' tk' F' N'
  k_steps
  (with_reducible rename Fr _ _ _ _ => F9)
  rw [gm_tokch] at F9
  exact hret _ _ _ F9 (by assumption)
end
end Mine

end
section
theorem Mine.resetL6c : True := by
  w_top off
  trivial
open PySem PySem.W PyProof.Rows PySem.Calls
set_option Elab.async false
set_option maxRecDepth 100000
set_option maxHeartbeats 1000000
namespace Mine
theorem fillK6c : (PySem.Challenge.rw_wf0014_01, hd.heap_39) = (PySem.Challenge.rw_wf0014_01, hd.heap_39) := by
  k_fill
  rfl
noncomputable abbrev SV (xs : List (Str × Tok)) : List Value := (xs.map fun p => Value.str p.1 p.2).reverse
theorem SV_cons (x : Str × Tok) (xs : List (Str × Tok)) : SV (x :: xs) = SV xs ++ [Value.str x.1 x.2] := by
  show ((Value.str x.1 x.2) :: xs.map _).reverse = _
  rw [List.reverse_cons]
theorem SV_len (xs : List (Str × Tok)) : (SV xs).length = xs.length := by
  show ((xs.map _).reverse).length = _
  rw [List.length_reverse, List.length_map]
noncomputable def cat : List (Str × Tok) → Str
  | [] => Str.empty
  | p :: r => p.1 ++ cat r
theorem app_nil (x : Str) : x ++ (⟨#[]⟩ : Str) = x := by
  refine Str.ext' ?_
  rw [Str.cps_append]
  simp
noncomputable abbrev tokE (L : Addr) : Env := envOf (Str.ofString "_netrclex.get_token") (fnS tokS) L 49 (.ref 48)
noncomputable abbrev chT (f : Stmt) : Expr := match f with | .For t _ _ _ _ => t | _ => .Name (Str.ofString "") default
theorem fn42 {P : Params} {h : Heap} (X : (hd.heap_39 P).In h) : ∃ of fd, h.get? 42 = some of ∧ of.data = .func fd := ⟨_, _, X 42 _ rfl, rfl⟩
noncomputable def QD (d : Str) : Prop := (d == Str.ofString "\"") = false ∧ (d == Str.ofString "\\") = false ∧ d ≠ Str.ofString "\n" ∧ d ≠ Str.ofString ""
noncomputable abbrev inWs (d : Str) : Bool := (Builtin.Str.occurrences (Str.ofString "\n\t\r ") d 0 (Str.ofString "\n\t\r ").length 1).isEmpty
noncomputable def PD (d : Str) : Prop := inWs d = true ∧ (d == Str.ofString "\\") = false ∧ d ≠ Str.ofString "\n" ∧ d ≠ Str.ofString ""
noncomputable def SD (p : (Str × Tok) × (Str × Tok)) : Prop := inWs p.1.1 = true ∧ (p.1.1 == Str.ofString "\\") = true ∧ p.1.1 ≠ Str.ofString "\n" ∧ p.1.1 ≠ Str.ofString "" ∧ p.2.1 ≠ Str.ofString "\n"
noncomputable def fl : List ((Str × Tok) × (Str × Tok)) → List (Str × Tok)
  | [] => []
  | p :: r => p.1 :: p.2 :: fl r
noncomputable def cat2 : List ((Str × Tok) × (Str × Tok)) → Str
  | [] => Str.empty
  | p :: r => p.2.1 ++ cat2 r
section
variable {w : World} {mean : ExcName → Option Value} {mg mb : Str → Option Value} {A A₀ : Around} {env : Env} {outer : List Env} {base h₀ : Heap} {L : Addr} {m : Str → Option Value} {s : Shared} {Q E : Value → Shared → Prop}
  {pc cs sg cc qm : Nat} {n : Int} {vs : List Value} {k j : Nat} {x : Value} {news news' rest : List (Addr × Obj)} {qual : Str} {doc md ct : Value} {oc : Obj}
  {line ld st sd pb pb2 it : Nat} {t1 t2 t3 t4 t5 u1 u2 e1 e2 e3 e4 e5 e6 e7 : Tok} {k2 jp : Nat} {hnd : Option Value} {dp un : Nat} {gd : Option (List Code)} {occ : Obj} {fvs : Array Value} {tq tq0 : Tok} {R : Result → Shared → Prop}
theorem next_c {Q : Option Value → Shared → Prop} {E : Value → Shared → Prop} {c : Str} {tc : Tok} (B : Below A₀ base outer h₀) (X : (hd.heap_39 w.params).In h₀) (T : Top TP TL mean mg mb h₀) (hroom : dp + 16 < recursionLimit) (H : CodeHd base 132 128)
    (hocc : occ.data = .fields fvs) (hfv : fvs[1]? = some (.str qual tq)) (hoc : oc.data = .cell (some (.ref sg)))
    (o2 : sg ≠ line) (o3 : sg ≠ ld) (o4 : sg ≠ st) (o5 : sg ≠ sd) (o6 : sg ≠ pc) (o7 : sg ≠ cs) (o8 : sg ≠ cc) (hr : ∀ p ∈ rest, p.1 ≠ sg) (mi : (it, ciObj qm tq0) ∈ rest) (mq : (qm, methodObj (.ref 42) (.ref line)) ∈ rest)
    (F : Fr h₀ L s.heap m) (N : News h₀ L s.heap ((line, instObj 59 ld) :: (ld, dictOf (lineD w t1 t2 t3 t4 u1 u2 n st pb) 4) :: (st, instObj 59 sd) :: (sd, dictOf (streamD w e1 e2 e3 e4 e5 e6 e7 pb2 pc) k2) ::
      (pc, pieceO qual cs doc md cc ct) :: (cc, occ) :: (cs, oc) :: (sg, listOf (vs ++ [Value.str c tc]).toArray j) :: rest))
    (hvs : (vs ++ [Value.str c tc]).length < 1000) (hc : c ≠ Str.ofString "\n") (hc2 : c ≠ Str.ofString "")
    (hret : ∀ h' tk', Fr h₀ L h' m → News h₀ L h' ((line, instObj 59 ld) :: (ld, dictOf (lineD w t1 t2 t3 t4 u1 u2 n st pb) 4) :: (st, instObj 59 sd) :: (sd, dictOf (streamD w e1 e2 e3 e4 e5 e6 e7 pb2 pc) k2) ::
      (pc, pieceO qual cs doc md cc ct) :: (cc, occ) :: (cs, oc) :: (sg, listOf vs.toArray (j + 1)) :: rest) → Q (some (.str c tc)) { s with heap := h', toks := tk' }) :
    wpAny (model PR w) (AA hnd dp (tokE L) outer gd un) (pyNext (.ref it)) Q E s := by
  obtain ⟨of, fd, hf, hfd⟩ := fn42 (X.keeps F.keep)
  have mi' : (it, ciObj qm tq0) ∈ ((line, instObj 59 ld) :: (ld, dictOf (lineD w t1 t2 t3 t4 u1 u2 n st pb) 4) :: (st, instObj 59 sd) :: (sd, dictOf (streamD w e1 e2 e3 e4 e5 e6 e7 pb2 pc) k2) ::
      (pc, pieceO qual cs doc md cc ct) :: (cc, occ) :: (cs, oc) :: (sg, listOf (vs ++ [Value.str c tc]).toArray j) :: rest) := by
    iterate 8 refine List.Mem.tail _ ?_
    exact mi
  have mq' : (qm, methodObj (.ref 42) (.ref line)) ∈ ((line, instObj 59 ld) :: (ld, dictOf (lineD w t1 t2 t3 t4 u1 u2 n st pb) 4) :: (st, instObj 59 sd) :: (sd, dictOf (streamD w e1 e2 e3 e4 e5 e6 e7 pb2 pc) k2) ::
      (pc, pieceO qual cs doc md cc ct) :: (cc, occ) :: (cs, oc) :: (sg, listOf (vs ++ [Value.str c tc]).toArray j) :: rest) := by
    iterate 8 refine List.Mem.tail _ ?_
    exact mq
  refine ci_next (N.get mi') (N.get mq') hf hfd ?_
  refine read_0 (hnd := hnd) (dp := dp) (env := tokE L) (outer := outer) (gd := gd) (un := un + 1) (vs := vs) (c := c) (tc := tc) (j := j) B F X N T rfl rfl (by omega) H hocc hfv hoc o2 o3 o4 o5 o6 o7 o8 hr hvs hc ?_
  intro h' tk' F' N'
  refine ⟨c, tc, rfl, hc2, N'.get ?_, hret _ _ F' N'⟩
  iterate 8 refine List.Mem.tail _ ?_
  exact mi
theorem next_nl {Q : Option Value → Shared → Prop} {E : Value → Shared → Prop} {c : Str} {tc : Tok} (B : Below A₀ base outer h₀) (X : (hd.heap_39 w.params).In h₀) (T : Top TP TL mean mg mb h₀) (hroom : dp + 16 < recursionLimit) (H : CodeHd base 132 128)
    (hocc : occ.data = .fields fvs) (hfv : fvs[1]? = some (.str qual tq)) (hoc : oc.data = .cell (some (.ref sg)))
    (o2 : sg ≠ line) (o3 : sg ≠ ld) (o4 : sg ≠ st) (o5 : sg ≠ sd) (o6 : sg ≠ pc) (o7 : sg ≠ cs) (o8 : sg ≠ cc) (hr : ∀ p ∈ rest, p.1 ≠ sg) (mi : (it, ciObj qm tq0) ∈ rest) (mq : (qm, methodObj (.ref 42) (.ref line)) ∈ rest) (q1 : ld ≠ line) (q2 : ld ≠ st) (q3 : ld ≠ sd) (q4 : ld ≠ pc) (q5 : ld ≠ cs) (q6 : ld ≠ cc) (hr2 : ∀ p ∈ rest, p.1 ≠ ld)
    (F : Fr h₀ L s.heap m) (N : News h₀ L s.heap ((line, instObj 59 ld) :: (ld, dictOf (lineD w t1 t2 t3 t4 u1 u2 n st pb) 4) :: (st, instObj 59 sd) :: (sd, dictOf (streamD w e1 e2 e3 e4 e5 e6 e7 pb2 pc) k2) ::
      (pc, pieceO qual cs doc md cc ct) :: (cc, occ) :: (cs, oc) :: (sg, listOf (vs ++ [Value.str c tc]).toArray j) :: rest))
    (hvs : (vs ++ [Value.str c tc]).length < 1000) (hc : c = Str.ofString "\n")
    (hret : ∀ h' tk' u1', Fr h₀ L h' m → News h₀ L h' ((line, instObj 59 ld) :: (ld, dictOf (lineD w t1 t2 t3 t4 u1' u2 (n + 1) st pb) 4) :: (st, instObj 59 sd) :: (sd, dictOf (streamD w e1 e2 e3 e4 e5 e6 e7 pb2 pc) k2) ::
      (pc, pieceO qual cs doc md cc ct) :: (cc, occ) :: (cs, oc) :: (sg, listOf vs.toArray (j + 1)) :: rest) → Q (some (.str c tc)) { s with heap := h', toks := tk' }) :
    wpAny (model PR w) (AA hnd dp (tokE L) outer gd un) (pyNext (.ref it)) Q E s := by
  obtain ⟨of, fd, hf, hfd⟩ := fn42 (X.keeps F.keep)
  have mi' : (it, ciObj qm tq0) ∈ ((line, instObj 59 ld) :: (ld, dictOf (lineD w t1 t2 t3 t4 u1 u2 n st pb) 4) :: (st, instObj 59 sd) :: (sd, dictOf (streamD w e1 e2 e3 e4 e5 e6 e7 pb2 pc) k2) ::
      (pc, pieceO qual cs doc md cc ct) :: (cc, occ) :: (cs, oc) :: (sg, listOf (vs ++ [Value.str c tc]).toArray j) :: rest) := by
    iterate 8 refine List.Mem.tail _ ?_
    exact mi
  have mq' : (qm, methodObj (.ref 42) (.ref line)) ∈ ((line, instObj 59 ld) :: (ld, dictOf (lineD w t1 t2 t3 t4 u1 u2 n st pb) 4) :: (st, instObj 59 sd) :: (sd, dictOf (streamD w e1 e2 e3 e4 e5 e6 e7 pb2 pc) k2) ::
      (pc, pieceO qual cs doc md cc ct) :: (cc, occ) :: (cs, oc) :: (sg, listOf (vs ++ [Value.str c tc]).toArray j) :: rest) := by
    iterate 8 refine List.Mem.tail _ ?_
    exact mq
  refine ci_next (N.get mi') (N.get mq') hf hfd ?_
  refine read_nl (hnd := hnd) (dp := dp) (env := tokE L) (outer := outer) (gd := gd) (un := un + 1) (vs := vs) (c := c) (tc := tc) (j := j) B F X N T rfl rfl (by omega) H hocc hfv hoc o2 o3 o4 o5 o6 o7 o8 hr hvs hc q1 q2 q3 q4 q5 q6 hr2 ?_
  intro h' tk' u1' F' N'
  refine ⟨c, tc, rfl, by rw [hc]; decide +kernel, N'.get ?_, hret _ _ _ F' N'⟩
  iterate 8 refine List.Mem.tail _ ?_
  exact mi
theorem qloop {ds xs : List (Str × Tok)} {qp : Str × Tok} {W tok : Str} {tt : Tok} {ch : Option Value} {px : Pos} (B : Below A₀ base outer h₀) (X : (hd.heap_39 w.params).In h₀) (T : Top TP TL mean mg mb h₀) (hroom : dp + 16 < recursionLimit) (H : CodeHd base 132 128)
    (hocc : occ.data = .fields fvs) (hfv : fvs[1]? = some (.str qual tq)) (hoc : oc.data = .cell (some (.ref sg)))
    (o2 : sg ≠ line) (o3 : sg ≠ ld) (o4 : sg ≠ st) (o5 : sg ≠ sd) (o6 : sg ≠ pc) (o7 : sg ≠ cs) (o8 : sg ≠ cc) (hr : ∀ p ∈ rest, p.1 ≠ sg) (mi : (it, ciObj qm tq0) ∈ rest) (mq : (qm, methodObj (.ref 42) (.ref line)) ∈ rest)
    (F : Fr h₀ L s.heap (gm line it ch tok tt)) (N : News h₀ L s.heap ((line, instObj 59 ld) :: (ld, dictOf (lineD w t1 t2 t3 t4 u1 u2 n st pb) 4) :: (st, instObj 59 sd) :: (sd, dictOf (streamD w e1 e2 e3 e4 e5 e6 e7 pb2 pc) k2) ::
      (pc, pieceO qual cs doc md cc ct) :: (cc, occ) :: (cs, oc) :: (sg, listOf (SV (ds ++ qp :: xs)).toArray j) :: rest))
    (hq : (qp.1 == Str.ofString "\"") = true) (hqn : qp.1 ≠ Str.ofString "\n") (hqe : qp.1 ≠ Str.ofString "") (hds : ∀ p ∈ ds, QD p.1) (hW : tok ++ cat ds = W) (hWl : W.length ≤ 1000) (hlen : (ds ++ qp :: xs).length < 1000)
    (hret : ∀ h' tk' j' t', (∃ m', Fr h₀ L h' m') → News h₀ L h' ((line, instObj 59 ld) :: (ld, dictOf (lineD w t1 t2 t3 t4 u1 u2 n st pb) 4) :: (st, instObj 59 sd) :: (sd, dictOf (streamD w e1 e2 e3 e4 e5 e6 e7 pb2 pc) k2) ::
      (pc, pieceO qual cs doc md cc ct) :: (cc, occ) :: (cs, oc) :: (sg, listOf (SV xs).toArray j') :: rest) → R (.ok (.ret (.str W t'))) { s with heap := h', toks := tk' }) :
    codeAny (model PR w) (AA hnd dp (tokE L) outer gd un) (.forLoop (.Name (Str.ofString "ch") px) (.ref it) quoteB [] (tokE L)) R s := by
  refine codeAny_forLoop (fun nn s' => ∃ (ds : List (Str × Tok)) (ch : Option Value) (tok : Str) (tt : Tok) (h : Heap) (tk j : Nat), ds.length = nn ∧ (∀ p ∈ ds, QD p.1) ∧ tok ++ cat ds = W ∧ (ds ++ qp :: xs).length < 1000 ∧ s' = { s with heap := h, toks := tk } ∧ Fr h₀ L h (gm line it ch tok tt) ∧ News h₀ L h ((line, instObj 59 ld) :: (ld, dictOf (lineD w t1 t2 t3 t4 u1 u2 n st pb) 4) :: (st, instObj 59 sd) :: (sd, dictOf (streamD w e1 e2 e3 e4 e5 e6 e7 pb2 pc) k2) ::
      (pc, pieceO qual cs doc md cc ct) :: (cc, occ) :: (cs, oc) :: (sg, listOf (SV (ds ++ qp :: xs)).toArray j) :: rest)) ?_ ds.length ⟨ds, ch, tok, tt, s.heap, s.toks, j, rfl, hds, hW, hlen, rfl, F, N⟩
  clear hds hW hlen F N
  rintro nn s' ⟨ds, ch, tok, tt, h, tk, j, rfl, hds, hW, hlen, rfl, F, N⟩
  cases ds with
  | nil =>
    rw [List.nil_append, SV_cons] at N
    have hl : (SV xs ++ [Value.str qp.1 qp.2]).length < 1000 := by
      rw [← SV_cons, SV_len]; simpa using hlen
    refine next_c B X T hroom H hocc hfv hoc o2 o3 o4 o5 o6 o7 o8 hr mi mq F N hl hqn hqe ?_
    intro h' tk' F' N'
    refine wpAny_assign_Name (stN F' N' (fun h'' F'' N'' => ?_))
    rw [gm_ch] at F''
    refine qbody_e B X T F'' N'' hq ?_
    intro h3 tk3 F3 N3
    rw [show cat [] = Str.empty from rfl, Str.append_empty] at hW
    subst hW
    exact hret _ _ _ _ F3 N3
  | cons d ds =>
    rw [List.cons_append, SV_cons] at N
    have hl : (SV (ds ++ qp :: xs) ++ [Value.str d.1 d.2]).length < 1000 := by
      rw [← SV_cons, SV_len]; simpa using hlen
    have hd := hds d (.head _)
    refine next_c B X T hroom H hocc hfv hoc o2 o3 o4 o5 o6 o7 o8 hr mi mq F N hl hd.2.2.1 hd.2.2.2 ?_
    intro h' tk' F' N'
    refine wpAny_assign_Name (stN F' N' (fun h'' F'' N'' => ?_))
    rw [gm_ch] at F''
    have hW' : (tok ++ d.1) ++ cat ds = W := by
      rw [Str.append_assoc]; exact hW
    have hz : tok.length + d.1.length ≤ sizeLine := by
      have e := congrArg Str.length hW'
      rw [Str.length_append, Str.length_append] at e
      rw [sizeLine_eq]; omega
    refine qbody_d B X T F'' N'' hd.1 hd.2.1 hz ?_
    intro h3 tk3 t3 F3 N3
    exact ⟨ds.length, Nat.lt_succ_self _, ds, _, _, _, h3, tk3, _, rfl, fun p hp => hds p (.tail _ hp), hW', by simp only [List.length_append, List.length_cons] at hlen ⊢; omega, rfl, F3, N3⟩
theorem ploop {ds xs : List (Str × Tok)} {qp : Str × Tok} {W tok : Str} {tt : Tok} {ch : Option Value} {px : Pos} (B : Below A₀ base outer h₀) (X : (hd.heap_39 w.params).In h₀) (T : Top TP TL mean mg mb h₀) (hroom : dp + 16 < recursionLimit) (H : CodeHd base 132 128)
    (hocc : occ.data = .fields fvs) (hfv : fvs[1]? = some (.str qual tq)) (hoc : oc.data = .cell (some (.ref sg)))
    (o2 : sg ≠ line) (o3 : sg ≠ ld) (o4 : sg ≠ st) (o5 : sg ≠ sd) (o6 : sg ≠ pc) (o7 : sg ≠ cs) (o8 : sg ≠ cc) (hr : ∀ p ∈ rest, p.1 ≠ sg) (mi : (it, ciObj qm tq0) ∈ rest) (mq : (qm, methodObj (.ref 42) (.ref line)) ∈ rest)
    (F : Fr h₀ L s.heap (gm line it ch tok tt)) (N : News h₀ L s.heap ((line, instObj 59 ld) :: (ld, dictOf (lineD w t1 t2 t3 t4 u1 u2 n st pb) 4) :: (st, instObj 59 sd) :: (sd, dictOf (streamD w e1 e2 e3 e4 e5 e6 e7 pb2 pc) k2) ::
      (pc, pieceO qual cs doc md cc ct) :: (cc, occ) :: (cs, oc) :: (sg, listOf (SV (ds ++ qp :: xs)).toArray j) :: rest))
    (hq : inWs qp.1 = false) (hqn : qp.1 ≠ Str.ofString "\n") (hqe : qp.1 ≠ Str.ofString "") (hds : ∀ p ∈ ds, PD p.1) (hW : tok ++ cat ds = W) (hWl : W.length ≤ 1000) (hlen : (ds ++ qp :: xs).length < 1000)
    (hret : ∀ h' tk' j' t', (∃ m', Fr h₀ L h' m') → News h₀ L h' ((line, instObj 59 ld) :: (ld, dictOf (lineD w t1 t2 t3 t4 u1 u2 n st pb) 4) :: (st, instObj 59 sd) :: (sd, dictOf (streamD w e1 e2 e3 e4 e5 e6 e7 pb2 pc) k2) ::
      (pc, pieceO qual cs doc md cc ct) :: (cc, occ) :: (cs, oc) :: (sg, listOf (SV xs).toArray j') :: rest) → R (.ok (.ret (.str W t'))) { s with heap := h', toks := tk' }) :
    codeAny (model PR w) (AA hnd dp (tokE L) outer gd un) (.forLoop (.Name (Str.ofString "ch") px) (.ref it) plainB [] (tokE L)) R s := by
  refine codeAny_forLoop (fun nn s' => ∃ (ds : List (Str × Tok)) (ch : Option Value) (tok : Str) (tt : Tok) (h : Heap) (tk j : Nat), ds.length = nn ∧ (∀ p ∈ ds, PD p.1) ∧ tok ++ cat ds = W ∧ (ds ++ qp :: xs).length < 1000 ∧ s' = { s with heap := h, toks := tk } ∧ Fr h₀ L h (gm line it ch tok tt) ∧ News h₀ L h ((line, instObj 59 ld) :: (ld, dictOf (lineD w t1 t2 t3 t4 u1 u2 n st pb) 4) :: (st, instObj 59 sd) :: (sd, dictOf (streamD w e1 e2 e3 e4 e5 e6 e7 pb2 pc) k2) ::
      (pc, pieceO qual cs doc md cc ct) :: (cc, occ) :: (cs, oc) :: (sg, listOf (SV (ds ++ qp :: xs)).toArray j) :: rest)) ?_ ds.length ⟨ds, ch, tok, tt, s.heap, s.toks, j, rfl, hds, hW, hlen, rfl, F, N⟩
  clear hds hW hlen F N
  rintro nn s' ⟨ds, ch, tok, tt, h, tk, j, rfl, hds, hW, hlen, rfl, F, N⟩
  cases ds with
  | nil =>
    rw [List.nil_append, SV_cons] at N
    have hl : (SV xs ++ [Value.str qp.1 qp.2]).length < 1000 := by
      rw [← SV_cons, SV_len]; simpa using hlen
    refine next_c B X T hroom H hocc hfv hoc o2 o3 o4 o5 o6 o7 o8 hr mi mq F N hl hqn hqe ?_
    intro h' tk' F' N'
    refine wpAny_assign_Name (stN F' N' (fun h'' F'' N'' => ?_))
    rw [gm_ch] at F''
    refine pbody_e B X T F'' N'' hq ?_
    intro h3 tk3 F3 N3
    rw [show cat [] = Str.empty from rfl, Str.append_empty] at hW
    subst hW
    exact hret _ _ _ _ F3 N3
  | cons d ds =>
    rw [List.cons_append, SV_cons] at N
    have hl : (SV (ds ++ qp :: xs) ++ [Value.str d.1 d.2]).length < 1000 := by
      rw [← SV_cons, SV_len]; simpa using hlen
    have hd := hds d (.head _)
    refine next_c B X T hroom H hocc hfv hoc o2 o3 o4 o5 o6 o7 o8 hr mi mq F N hl hd.2.2.1 hd.2.2.2 ?_
    intro h' tk' F' N'
    refine wpAny_assign_Name (stN F' N' (fun h'' F'' N'' => ?_))
    rw [gm_ch] at F''
    have hW' : (tok ++ d.1) ++ cat ds = W := by
      rw [Str.append_assoc]; exact hW
    have hz : tok.length + d.1.length ≤ sizeLine := by
      have e := congrArg Str.length hW'
      rw [Str.length_append, Str.length_append] at e
      rw [sizeLine_eq]; omega
    refine pbody_d B X T F'' N'' hd.1 hd.2.1 hz ?_
    intro h3 tk3 t3 F3 N3
    exact ⟨ds.length, Nat.lt_succ_self _, ds, _, _, _, h3, tk3, _, rfl, fun p hp => hds p (.tail _ hp), hW', by simp only [List.length_append, List.length_cons] at hlen ⊢; omega, rfl, F3, N3⟩
theorem bloop {ds : List ((Str × Tok) × (Str × Tok))} {xs : List (Str × Tok)} {qp : Str × Tok} {W tok : Str} {tt : Tok} {ch : Option Value} {px : Pos} (B : Below A₀ base outer h₀) (X : (hd.heap_39 w.params).In h₀) (T : Top TP TL mean mg mb h₀) (hroom : dp + 16 < recursionLimit) (H : CodeHd base 132 128)
    (hocc : occ.data = .fields fvs) (hfv : fvs[1]? = some (.str qual tq)) (hoc : oc.data = .cell (some (.ref sg)))
    (o2 : sg ≠ line) (o3 : sg ≠ ld) (o4 : sg ≠ st) (o5 : sg ≠ sd) (o6 : sg ≠ pc) (o7 : sg ≠ cs) (o8 : sg ≠ cc) (hr : ∀ p ∈ rest, p.1 ≠ sg) (mi : (it, ciObj qm tq0) ∈ rest) (mq : (qm, methodObj (.ref 42) (.ref line)) ∈ rest) (q1 : ld ≠ line) (q2 : ld ≠ st) (q3 : ld ≠ sd) (q4 : ld ≠ pc) (q5 : ld ≠ cs) (q6 : ld ≠ cc) (hr2 : ∀ p ∈ rest, p.1 ≠ ld)
    (F : Fr h₀ L s.heap (gm line it ch tok tt)) (N : News h₀ L s.heap ((line, instObj 59 ld) :: (ld, dictOf (lineD w t1 t2 t3 t4 u1 u2 n st pb) 4) :: (st, instObj 59 sd) :: (sd, dictOf (streamD w e1 e2 e3 e4 e5 e6 e7 pb2 pc) k2) ::
      (pc, pieceO qual cs doc md cc ct) :: (cc, occ) :: (cs, oc) :: (sg, listOf (SV (fl ds ++ qp :: xs)).toArray j) :: rest))
    (hq : qp.1 = Str.ofString "\n") (hds : ∀ p ∈ ds, SD p) (hW : tok ++ cat2 ds = W) (hWl : W.length ≤ 1000) (hlen : (fl ds ++ qp :: xs).length < 1000)
    (hret : ∀ h' tk' j' t' u1', (∃ m', Fr h₀ L h' m') → News h₀ L h' ((line, instObj 59 ld) :: (ld, dictOf (lineD w t1 t2 t3 t4 u1' u2 (n + 1) st pb) 4) :: (st, instObj 59 sd) :: (sd, dictOf (streamD w e1 e2 e3 e4 e5 e6 e7 pb2 pc) k2) ::
      (pc, pieceO qual cs doc md cc ct) :: (cc, occ) :: (cs, oc) :: (sg, listOf (SV xs).toArray j') :: rest) → R (.ok (.ret (.str W t'))) { s with heap := h', toks := tk' }) :
    codeAny (model PR w) (AA hnd dp (tokE L) outer gd un) (.forLoop (.Name (Str.ofString "ch") px) (.ref it) plainB [] (tokE L)) R s := by
  refine codeAny_forLoop (fun nn s' => ∃ (ds : List ((Str × Tok) × (Str × Tok))) (ch : Option Value) (tok : Str) (tt : Tok) (h : Heap) (tk j : Nat), ds.length = nn ∧ (∀ p ∈ ds, SD p) ∧ tok ++ cat2 ds = W ∧ (fl ds ++ qp :: xs).length < 1000 ∧ s' = { s with heap := h, toks := tk } ∧ Fr h₀ L h (gm line it ch tok tt) ∧ News h₀ L h ((line, instObj 59 ld) :: (ld, dictOf (lineD w t1 t2 t3 t4 u1 u2 n st pb) 4) :: (st, instObj 59 sd) :: (sd, dictOf (streamD w e1 e2 e3 e4 e5 e6 e7 pb2 pc) k2) ::
      (pc, pieceO qual cs doc md cc ct) :: (cc, occ) :: (cs, oc) :: (sg, listOf (SV (fl ds ++ qp :: xs)).toArray j) :: rest)) ?_ ds.length ⟨ds, ch, tok, tt, s.heap, s.toks, j, rfl, hds, hW, hlen, rfl, F, N⟩
  clear hds hW hlen F N
  rintro nn s' ⟨ds, ch, tok, tt, h, tk, j, rfl, hds, hW, hlen, rfl, F, N⟩
  cases ds with
  | nil =>
    rw [show fl [] = [] from rfl, List.nil_append, SV_cons] at N
    have hl : (SV xs ++ [Value.str qp.1 qp.2]).length < 1000 := by
      rw [← SV_cons, SV_len]; simpa [fl] using hlen
    refine next_nl B X T hroom H hocc hfv hoc o2 o3 o4 o5 o6 o7 o8 hr mi mq q1 q2 q3 q4 q5 q6 hr2 F N hl hq ?_
    intro h' tk' u1' F' N'
    refine wpAny_assign_Name (stN F' N' (fun h'' F'' N'' => ?_))
    rw [gm_ch] at F''
    refine pbody_e B X T F'' N'' (by rw [hq]; decide +kernel) ?_
    intro h3 tk3 F3 N3
    rw [show cat2 [] = Str.empty from rfl, Str.append_empty] at hW
    subst hW
    exact hret _ _ _ _ _ F3 N3
  | cons d ds =>
    rw [show fl (d :: ds) = d.1 :: d.2 :: fl ds from rfl, List.cons_append, List.cons_append, SV_cons, SV_cons] at N
    have hl : (SV (fl ds ++ qp :: xs) ++ [Value.str d.2.1 d.2.2] ++ [Value.str d.1.1 d.1.2]).length < 1000 := by
      rw [← SV_cons, ← SV_cons, SV_len]; simpa [fl] using hlen
    have hl2 : (SV (fl ds ++ qp :: xs) ++ [Value.str d.2.1 d.2.2]).length < 1000 := by
      rw [List.length_append] at hl; omega
    have hd := hds d (.head _)
    refine next_c B X T hroom H hocc hfv hoc o2 o3 o4 o5 o6 o7 o8 hr mi mq F N hl hd.2.2.1 hd.2.2.2.1 ?_
    intro h' tk' F' N'
    refine wpAny_assign_Name (stN F' N' (fun h'' F'' N'' => ?_))
    rw [gm_ch] at F''
    have hW' : (tok ++ d.2.1) ++ cat2 ds = W := by
      rw [Str.append_assoc]; exact hW
    have hz : tok.length + d.2.1.length ≤ sizeLine := by
      have e := congrArg Str.length hW'
      rw [Str.length_append, Str.length_append] at e
      rw [sizeLine_eq]; omega
    refine pbody_b B X T F'' N'' (by omega) H hocc hfv hoc o2 o3 o4 o5 o6 o7 o8 hr hl2 hd.2.2.2.2 hd.1 hd.2.1 hz ?_
    intro h3 tk3 t3 F3 N3
    refine ⟨ds.length, Nat.lt_succ_self _, ds, _, _, _, h3, tk3, _, rfl, fun p hp => hds p (.tail _ hp), hW', ?_, rfl, F3, N3⟩
    simp only [fl, List.length_append, List.length_cons] at hlen ⊢
    omega
end
end Mine

end
section
theorem Mine.resetL6d : True := by
  w_top off
  trivial
open PySem PySem.W PyProof.Rows PySem.Calls
set_option Elab.async false
set_option maxRecDepth 100000
set_option maxHeartbeats 1000000
namespace Mine
theorem fillK6d : (PySem.Challenge.rw_wf0014_01, hd.heap_39) = (PySem.Challenge.rw_wf0014_01, hd.heap_39) := by
  k_fill
  rfl
noncomputable abbrev outerB : List Stmt := fnB outerF
section
variable {w : World} {mean : ExcName → Option Value} {mg mb : Str → Option Value} {A A₀ : Around} {env : Env} {outer : List Env} {base h₀ : Heap} {L : Addr} {m : Str → Option Value} {s : Shared} {Q E : Value → Shared → Prop}
  {pc cs sg cc qm : Nat} {n : Int} {vs : List Value} {k j : Nat} {x : Value} {news news' rest : List (Addr × Obj)} {qual : Str} {doc md ct : Value} {oc : Obj}
  {line ld st sd pb pb2 it : Nat} {t1 t2 t3 t4 t5 u1 u2 e1 e2 e3 e4 e5 e6 e7 : Tok} {k2 jp : Nat} {hnd : Option Value} {dp un : Nat} {gd : Option (List Code)} {occ : Obj} {fvs : Array Value} {tq tq0 : Tok} {R : Result → Shared → Prop}
theorem outer_q {q0 qp : Str × Tok} {ds xs : List (Str × Tok)} {W : Str} {tt : Tok} {px : Pos} (B : Below A₀ base outer h₀) (X : (hd.heap_39 w.params).In h₀) (T : Top TP TL mean mg mb h₀) (hroom : dp + 16 < recursionLimit) (H : CodeHd base 132 128)
    (hocc : occ.data = .fields fvs) (hfv : fvs[1]? = some (.str qual tq)) (hoc : oc.data = .cell (some (.ref sg)))
    (o2 : sg ≠ line) (o3 : sg ≠ ld) (o4 : sg ≠ st) (o5 : sg ≠ sd) (o6 : sg ≠ pc) (o7 : sg ≠ cs) (o8 : sg ≠ cc) (hr : ∀ p ∈ rest, p.1 ≠ sg) (mi : (it, ciObj qm tq0) ∈ rest) (mq : (qm, methodObj (.ref 42) (.ref line)) ∈ rest)
    (F : Fr h₀ L s.heap (gm line it none (Str.ofString "") tt)) (N : News h₀ L s.heap ((line, instObj 59 ld) :: (ld, dictOf (lineD w t1 t2 t3 t4 u1 u2 n st pb) 4) :: (st, instObj 59 sd) :: (sd, dictOf (streamD w e1 e2 e3 e4 e5 e6 e7 pb2 pc) k2) ::
      (pc, pieceO qual cs doc md cc ct) :: (cc, occ) :: (cs, oc) :: (sg, listOf (SV (q0 :: ds ++ qp :: xs)).toArray j) :: rest))
    (hq0 : q0.1 = Str.ofString "\"") (hqp : qp.1 = Str.ofString "\"") (hds : ∀ p ∈ ds, QD p.1) (hW : Str.ofString "" ++ cat ds = W) (hWl : W.length ≤ 1000) (hlen : (q0 :: ds ++ qp :: xs).length < 1000)
    (hret : ∀ h' tk' j' t', (∃ m', Fr h₀ L h' m') → News h₀ L h' ((line, instObj 59 ld) :: (ld, dictOf (lineD w t1 t2 t3 t4 u1 u2 n st pb) 4) :: (st, instObj 59 sd) :: (sd, dictOf (streamD w e1 e2 e3 e4 e5 e6 e7 pb2 pc) k2) ::
      (pc, pieceO qual cs doc md cc ct) :: (cc, occ) :: (cs, oc) :: (sg, listOf (SV xs).toArray j') :: rest) → R (.ok (.ret (.str W t'))) { s with heap := h', toks := tk' }) :
    codeAny (model PR w) (AA hnd dp (tokE L) outer gd un) (.forLoop (.Name (Str.ofString "ch") px) (.ref it) (fnB outerF) [] (tokE L)) R s := by
  refine codeAny_forLoop (fun n s' => n = 0 ∧ s' = s) ?_ 0 ⟨rfl, rfl⟩
  rintro nn s' ⟨rfl, rfl⟩
  rw [List.cons_append, SV_cons] at N
  have hl : (SV (ds ++ qp :: xs) ++ [Value.str q0.1 q0.2]).length < 1000 := by
    rw [← SV_cons, SV_len]; simpa using hlen
  refine next_c B X T hroom H hocc hfv hoc o2 o3 o4 o5 o6 o7 o8 hr mi mq F N hl (by rw [hq0]; decide +kernel) (by rw [hq0]; decide +kernel) ?_
  intro h' tk' F' N'
  refine wpAny_assign_Name (stN F' N' (fun h'' F'' N'' => ?_))
  rw [gm_ch] at F''
  have h1 : inWs q0.1 = true := by rw [hq0]; decide +kernel
  have h2 : (q0.1 == Str.ofString "\"") = true := by rw [hq0]; decide +kernel
  have eS : fnS tokS = fnS tokS := rfl
  conv at eS => { rhs; whnf }
  have eB : fnB outerF = fnB outerF := rfl
  conv at eB => { rhs; whnf }
  rw [eB]
  dsimp only [tokE]
  rw [eS]
  k_steps
  refine wpAny_For ?_
  k_steps
  have mi' : (it, ciObj qm tq0) ∈ ((line, instObj 59 ld) :: (ld, dictOf (lineD w t1 t2 t3 t4 u1 u2 n st pb) 4) :: (st, instObj 59 sd) :: (sd, dictOf (streamD w e1 e2 e3 e4 e5 e6 e7 pb2 pc) k2) ::
      (pc, pieceO qual cs doc md cc ct) :: (cc, occ) :: (cs, oc) :: (sg, listOf (SV (ds ++ qp :: xs)).toArray (j + 1)) :: rest) := by
    iterate 8 refine List.Mem.tail _ ?_
    exact mi
  refine ci_iter (News.get ‹_› mi') ?_
  refine qloop (ds := ds) (xs := xs) (qp := qp) (W := W) B X T hroom H hocc hfv hoc o2 o3 o4 o5 o6 o7 o8 hr mi mq ‹_› ‹_› (by rw [hqp]; decide +kernel) (by rw [hqp]; decide +kernel) (by rw [hqp]; decide +kernel) hds hW hWl (by simp only [List.length_append, List.length_cons] at hlen ⊢; omega) ?_
  intro h3 tk3 j3 t3 F3 N3
  exact hret _ _ _ _ F3 N3
theorem outer_p {d0 qp : Str × Tok} {ds xs : List (Str × Tok)} {W : Str} {tt : Tok} {px : Pos} (B : Below A₀ base outer h₀) (X : (hd.heap_39 w.params).In h₀) (T : Top TP TL mean mg mb h₀) (hroom : dp + 16 < recursionLimit) (H : CodeHd base 132 128)
    (hocc : occ.data = .fields fvs) (hfv : fvs[1]? = some (.str qual tq)) (hoc : oc.data = .cell (some (.ref sg)))
    (o2 : sg ≠ line) (o3 : sg ≠ ld) (o4 : sg ≠ st) (o5 : sg ≠ sd) (o6 : sg ≠ pc) (o7 : sg ≠ cs) (o8 : sg ≠ cc) (hr : ∀ p ∈ rest, p.1 ≠ sg) (mi : (it, ciObj qm tq0) ∈ rest) (mq : (qm, methodObj (.ref 42) (.ref line)) ∈ rest)
    (F : Fr h₀ L s.heap (gm line it none (Str.ofString "") tt)) (N : News h₀ L s.heap ((line, instObj 59 ld) :: (ld, dictOf (lineD w t1 t2 t3 t4 u1 u2 n st pb) 4) :: (st, instObj 59 sd) :: (sd, dictOf (streamD w e1 e2 e3 e4 e5 e6 e7 pb2 pc) k2) ::
      (pc, pieceO qual cs doc md cc ct) :: (cc, occ) :: (cs, oc) :: (sg, listOf (SV (d0 :: ds ++ qp :: xs)).toArray j) :: rest))
    (hd0 : PD d0.1) (hd0q : (d0.1 == Str.ofString "\"") = false) (hqp : inWs qp.1 = false) (hqn : qp.1 ≠ Str.ofString "\n") (hqe : qp.1 ≠ Str.ofString "") (hds : ∀ p ∈ ds, PD p.1) (hW : (Str.ofString "" ++ d0.1) ++ cat ds = W) (hWl : W.length ≤ 1000) (hlen : (d0 :: ds ++ qp :: xs).length < 1000)
    (hret : ∀ h' tk' j' t', (∃ m', Fr h₀ L h' m') → News h₀ L h' ((line, instObj 59 ld) :: (ld, dictOf (lineD w t1 t2 t3 t4 u1 u2 n st pb) 4) :: (st, instObj 59 sd) :: (sd, dictOf (streamD w e1 e2 e3 e4 e5 e6 e7 pb2 pc) k2) ::
      (pc, pieceO qual cs doc md cc ct) :: (cc, occ) :: (cs, oc) :: (sg, listOf (SV xs).toArray j') :: rest) → R (.ok (.ret (.str W t'))) { s with heap := h', toks := tk' }) :
    codeAny (model PR w) (AA hnd dp (tokE L) outer gd un) (.forLoop (.Name (Str.ofString "ch") px) (.ref it) (fnB outerF) [] (tokE L)) R s := by
  refine codeAny_forLoop (fun n s' => n = 0 ∧ s' = s) ?_ 0 ⟨rfl, rfl⟩
  rintro nn s' ⟨rfl, rfl⟩
  rw [List.cons_append, SV_cons] at N
  have hl : (SV (ds ++ qp :: xs) ++ [Value.str d0.1 d0.2]).length < 1000 := by
    rw [← SV_cons, SV_len]; simpa using hlen
  refine next_c B X T hroom H hocc hfv hoc o2 o3 o4 o5 o6 o7 o8 hr mi mq F N hl hd0.2.2.1 hd0.2.2.2 ?_
  intro h' tk' F' N'
  refine wpAny_assign_Name (stN F' N' (fun h'' F'' N'' => ?_))
  rw [gm_ch] at F''
  have h1 : inWs d0.1 = true := hd0.1
  have h2 : (d0.1 == Str.ofString "\\") = false := hd0.2.1
  have hts : (Str.ofString "").length + d0.1.length ≤ sizeLine := by
    have e := congrArg Str.length hW
    rw [Str.length_append, Str.length_append] at e
    rw [sizeLine_eq]; omega
  have eS : fnS tokS = fnS tokS := rfl
  conv at eS => { rhs; whnf }
  have eB : fnB outerF = fnB outerF := rfl
  conv at eB => { rhs; whnf }
  rw [eB]
  dsimp only [tokE]
  rw [eS]
  k_steps
  refine wpAny_For ?_
  k_steps
  (with_reducible rename Fr _ _ _ _ => F9)
  rw [gm_tok] at F9
  have mi' : (it, ciObj qm tq0) ∈ ((line, instObj 59 ld) :: (ld, dictOf (lineD w t1 t2 t3 t4 u1 u2 n st pb) 4) :: (st, instObj 59 sd) :: (sd, dictOf (streamD w e1 e2 e3 e4 e5 e6 e7 pb2 pc) k2) ::
      (pc, pieceO qual cs doc md cc ct) :: (cc, occ) :: (cs, oc) :: (sg, listOf (SV (ds ++ qp :: xs)).toArray (j + 1)) :: rest) := by
    iterate 8 refine List.Mem.tail _ ?_
    exact mi
  refine ci_iter (News.get ‹_› mi') ?_
  refine ploop (ds := ds) (xs := xs) (qp := qp) (W := W) B X T hroom H hocc hfv hoc o2 o3 o4 o5 o6 o7 o8 hr mi mq F9 ‹_› hqp hqn hqe hds hW hWl (by simp only [List.length_append, List.length_cons] at hlen ⊢; omega) ?_
  intro h3 tk3 j3 t3 F3 N3
  exact hret _ _ _ _ F3 N3
theorem outer_b {d0 : (Str × Tok) × (Str × Tok)} {qp : Str × Tok} {ds : List ((Str × Tok) × (Str × Tok))} {xs : List (Str × Tok)} {W : Str} {tt : Tok} {px : Pos} (B : Below A₀ base outer h₀) (X : (hd.heap_39 w.params).In h₀) (T : Top TP TL mean mg mb h₀) (hroom : dp + 16 < recursionLimit) (H : CodeHd base 132 128)
    (hocc : occ.data = .fields fvs) (hfv : fvs[1]? = some (.str qual tq)) (hoc : oc.data = .cell (some (.ref sg)))
    (o2 : sg ≠ line) (o3 : sg ≠ ld) (o4 : sg ≠ st) (o5 : sg ≠ sd) (o6 : sg ≠ pc) (o7 : sg ≠ cs) (o8 : sg ≠ cc) (hr : ∀ p ∈ rest, p.1 ≠ sg) (mi : (it, ciObj qm tq0) ∈ rest) (mq : (qm, methodObj (.ref 42) (.ref line)) ∈ rest) (q1 : ld ≠ line) (q2 : ld ≠ st) (q3 : ld ≠ sd) (q4 : ld ≠ pc) (q5 : ld ≠ cs) (q6 : ld ≠ cc) (hr2 : ∀ p ∈ rest, p.1 ≠ ld)
    (F : Fr h₀ L s.heap (gm line it none (Str.ofString "") tt)) (N : News h₀ L s.heap ((line, instObj 59 ld) :: (ld, dictOf (lineD w t1 t2 t3 t4 u1 u2 n st pb) 4) :: (st, instObj 59 sd) :: (sd, dictOf (streamD w e1 e2 e3 e4 e5 e6 e7 pb2 pc) k2) ::
      (pc, pieceO qual cs doc md cc ct) :: (cc, occ) :: (cs, oc) :: (sg, listOf (SV (d0.1 :: d0.2 :: fl ds ++ qp :: xs)).toArray j) :: rest))
    (hd0 : SD d0) (hd0q : (d0.1.1 == Str.ofString "\"") = false) (hqp : qp.1 = Str.ofString "\n") (hds : ∀ p ∈ ds, SD p) (hW : (Str.ofString "" ++ d0.2.1) ++ cat2 ds = W) (hWl : W.length ≤ 1000) (hlen : (d0.1 :: d0.2 :: fl ds ++ qp :: xs).length < 1000)
    (hret : ∀ h' tk' j' t' u1', (∃ m', Fr h₀ L h' m') → News h₀ L h' ((line, instObj 59 ld) :: (ld, dictOf (lineD w t1 t2 t3 t4 u1' u2 (n + 1) st pb) 4) :: (st, instObj 59 sd) :: (sd, dictOf (streamD w e1 e2 e3 e4 e5 e6 e7 pb2 pc) k2) ::
      (pc, pieceO qual cs doc md cc ct) :: (cc, occ) :: (cs, oc) :: (sg, listOf (SV xs).toArray j') :: rest) → R (.ok (.ret (.str W t'))) { s with heap := h', toks := tk' }) :
    codeAny (model PR w) (AA hnd dp (tokE L) outer gd un) (.forLoop (.Name (Str.ofString "ch") px) (.ref it) (fnB outerF) [] (tokE L)) R s := by
  refine codeAny_forLoop (fun n s' => n = 0 ∧ s' = s) ?_ 0 ⟨rfl, rfl⟩
  rintro nn s' ⟨rfl, rfl⟩
  rw [List.cons_append, List.cons_append, SV_cons, SV_cons] at N
  have hl : (SV (fl ds ++ qp :: xs) ++ [Value.str d0.2.1 d0.2.2] ++ [Value.str d0.1.1 d0.1.2]).length < 1000 := by
    rw [← SV_cons, ← SV_cons, SV_len]; simpa using hlen
  have hl2 : (SV (fl ds ++ qp :: xs) ++ [Value.str d0.2.1 d0.2.2]).length < 1000 := by
    rw [List.length_append] at hl; omega
  refine next_c B X T hroom H hocc hfv hoc o2 o3 o4 o5 o6 o7 o8 hr mi mq F N hl hd0.2.2.1 hd0.2.2.2.1 ?_
  intro h' tk' F' N'
  refine wpAny_assign_Name (stN F' N' (fun h'' F'' N'' => ?_))
  rw [gm_ch] at F''
  have h1 : inWs d0.1.1 = true := hd0.1
  have h2 : (d0.1.1 == Str.ofString "\\") = true := hd0.2.1
  have hts : (Str.ofString "").length + d0.2.1.length ≤ sizeLine := by
    have e := congrArg Str.length hW
    rw [Str.length_append, Str.length_append] at e
    rw [sizeLine_eq]; omega
  have eS : fnS tokS = fnS tokS := rfl
  conv at eS => { rhs; whnf }
  have eB : fnB outerF = fnB outerF := rfl
  conv at eB => { rhs; whnf }
  rw [eB]
  dsimp only [tokE]
  rw [eS]
  k_steps
  dsimp only [List.nil_append, List.cons_append, List.append_nil]
  refine wpAny_call (read_0 (vs := SV (fl ds ++ qp :: xs)) (c := d0.2.1) (tc := d0.2.2) B ‹_› X ‹_› T ?_ ?_ (by omega) H hocc hfv hoc o2 o3 o4 o5 o6 o7 o8 hr hl2 hd0.2.2.2.2 ?_)
  · exact rfl
  · exact rfl
  intro h' tk' F' N'
  k_steps
  refine wpAny_For ?_
  k_steps
  (with_reducible rename Fr _ _ _ _ => F9)
  rw [gm_tokch] at F9
  have mi' : (it, ciObj qm tq0) ∈ ((line, instObj 59 ld) :: (ld, dictOf (lineD w t1 t2 t3 t4 u1 u2 n st pb) 4) :: (st, instObj 59 sd) :: (sd, dictOf (streamD w e1 e2 e3 e4 e5 e6 e7 pb2 pc) k2) ::
      (pc, pieceO qual cs doc md cc ct) :: (cc, occ) :: (cs, oc) :: (sg, listOf (SV (fl ds ++ qp :: xs)).toArray (j + 1 + 1)) :: rest) := by
    iterate 8 refine List.Mem.tail _ ?_
    exact mi
  refine ci_iter (News.get ‹_› mi') ?_
  refine bloop (ds := ds) (xs := xs) (qp := qp) (W := W) B X T hroom H hocc hfv hoc o2 o3 o4 o5 o6 o7 o8 hr mi mq q1 q2 q3 q4 q5 q6 hr2 F9 ‹_› hqp hds hW hWl (by simp only [List.length_append, List.length_cons] at hlen ⊢; omega) ?_
  intro h3 tk3 j3 t3 u3 F3 N3
  exact hret _ _ _ _ _ F3 N3
end
end Mine

end
section
theorem Mine.resetL6e : True := by
  w_top off
  trivial
open PySem PySem.W PyProof.Rows PySem.Calls
set_option Elab.async false
set_option maxRecDepth 100000
set_option maxHeartbeats 1000000
namespace Mine
section
variable {prog : Program} {w : World} {A : Around} {E : Value → Shared → Prop} {s : Shared} {it q f : Addr} {t : Tok}
theorem ci_end {x : Addr} {of : Obj} {fd : FuncData} {Q : Option Value → Shared → Prop} (hh : A.handled = none) (hit : s.heap.get? it = some (ciObj q t)) (hq : s.heap.get? q = some (methodObj (.ref f) (.ref x))) (hf : s.heap.get? f = some of) (hfd : of.data = .func fd)
    (hcall : codeAny (model prog w) A.in1 (.call (.ref f) ⟨[.ref x], []⟩) (fun r s' => ∃ tc of' fd', r = .ok (.ret (.str (Str.ofString "") tc)) ∧ s'.heap.get? it = some (ciObj q t) ∧ s'.heap.get? q = some (methodObj (.ref f) (.ref x)) ∧ s'.heap.get? f = some of' ∧ of'.data = .func fd' ∧
      ∀ h', Heap.ExtBut it s'.heap h' → Q none { s' with heap := h' }) s) :
    wpAny (model prog w) A (pyNext (.ref it)) Q E s := by
  have hT : s.TypeIs (.ref it) "callable_iterator" := ⟨_, hit, rfl⟩
  unfold pyNext
  refine wpAny_bind (wpAny_attempt (wpAny_callSpecial?_slot (name := Str.ofString "__next__") hT slot_ci_next (wpAny_call_entry slot_ci_next hT entry_ci_next ?_ (args_ci_next _))))
  show wpAny _ _ (field (.ref it) 2 >>= _) _ _ s
  refine wpAny_bind (wpAny_field hit rfl (x := .bool false) rfl ?_)
  show wpAny _ _ (field (.ref it) 0 >>= _) _ _ s
  refine wpAny_bind (wpAny_field hit rfl (x := .ref q) rfl ?_)
  refine wpAny_bind (wpAny_attempt ?_)
  unfold callOutOfASlot
  refine wpAny_bind (borrows_meth hq hf hfd ?_)
  rw [if_pos rfl]
  refine PySem.W.X.x_call ?_ (by intro h; cases h)
  rw [mark_none]
  refine method_call hq (codeAny_mono hcall ?_)
  rintro r s' ⟨tc, of', fd', rfl, hit', hq', hf', hfd', hQ⟩
  refine wpAny_pure ?_
  show wpAny _ _ (field (.ref it) 2 >>= _) _ _ s'
  refine wpAny_bind (wpAny_field hit' rfl (x := .bool false) rfl ?_)
  show wpAny _ _ (field (.ref it) 1 >>= _) _ _ s'
  refine wpAny_bind (wpAny_field hit' rfl (x := .str (Str.ofString "") t) rfl ?_)
  refine wpAny_bind (wpAny_holding (eqBool_str ?_))
  have e : (Str.ofString "" == Str.ofString "") = true := by decide +kernel
  rw [e]
  show wpAny _ _ (rule _ >>= _) _ _ _
  refine wpAny_bind (wpAny_rule ?_)
  refine wpAny_bind ?_
  show wpAny _ _ (field (.ref it) 0 >>= _) _ _ s'
  refine wpAny_bind (wpAny_field hit' rfl (x := .ref q) rfl ?_)
  refine wpAny_bind ?_
  unfold slotLetsGo
  show wpAny _ _ (borrowsExactly (.ref q) >>= _) _ _ s'
  refine wpAny_bind (borrows_meth hq' hf' hfd' ?_)
  rw [if_pos rfl]
  refine wpAny_pure ?_
  refine wpAny_bind (wpAny_setField_rec hit' (by simp) fun h₂ he₂ hs₂ => ?_)
  refine wpAny_bind (wpAny_setField_rec he₂ (by simp) fun h₃ he₃ hs₃ => ?_)
  refine wpAny_setField_rec he₃ (by simp) fun h₄ he₄ hs₄ => ?_
  show wpAny _ _ (newExc (.type "StopIteration") [] >>= _) _ _ _
  refine wpAny_bind ?_
  simp only [newExc, newTuple]
  refine wpAny_bind (wpAny_newObj_type ?_ (by size_fits))
  refine wpAny_bind (m := firstArgMember _ _) (wpAny_of_eq (a := Value.none) (by first | rfl | (simp only [firstArgMember]; rfl)) ?_)
  refine wpAny_newObj_type ?_ (by size_fits)
  simp only [raiseNew]
  refine wpAny_bind (wpAny_handled ?_)
  first | rw [show A.in1.handled = none from hh] | rw [hh]
  refine wpAny_bind (wpAny_pure (wpAny_throw ?_))
  refine wpAny_bind (wpAny_isInstance (T := "StopIteration") (b := true) ⟨_, Heap.get?_push_size _ rfl, rfl⟩ isSubtype_stop ?_)
  exact wpAny_pure (hQ _ (((Heap.SameBut.trans (Heap.SameBut.trans hs₂ hs₃) hs₄).extBut.push _).push _))
end
end Mine

end
section
theorem Mine.resetL6f : True := by
  w_top off
  trivial
open PySem PySem.W PyProof.Rows PySem.Calls
set_option Elab.async false
set_option maxRecDepth 100000
set_option maxHeartbeats 1000000
namespace Mine
theorem fillK6f : (PySem.Challenge.rw_wf0014_01, hd.heap_39) = (PySem.Challenge.rw_wf0014_01, hd.heap_39) := by
  k_fill
  rfl
section
variable {w : World} {mean : ExcName → Option Value} {mg mb : Str → Option Value} {A A₀ : Around} {env : Env} {outer : List Env} {base h₀ : Heap} {L : Addr} {m : Str → Option Value} {s : Shared} {Q E : Value → Shared → Prop}
  {pc cs sg cc qm : Nat} {n : Int} {vs : List Value} {k j : Nat} {x : Value} {news news' rest : List (Addr × Obj)} {qual : Str} {doc md ct : Value} {oc : Obj}
  {line ld st sd pb pb2 it : Nat} {t1 t2 t3 t4 t5 u1 u2 e1 e2 e3 e4 e5 e6 e7 : Tok} {k2 jp : Nat} {hnd : Option Value} {dp un : Nat} {gd : Option (List Code)} {occ : Obj} {fvs : Array Value} {tq tq0 : Tok} {R : Result → Shared → Prop}
theorem outer_e {tt : Tok} {px : Pos} (B : Below A₀ base outer h₀) (X : (hd.heap_39 w.params).In h₀) (T : Top TP TL mean mg mb h₀) (hroom : dp + 16 < recursionLimit) (H : CodeHd base 132 128)
    (hocc : occ.data = .fields fvs) (hfv : fvs[1]? = some (.str qual tq)) (hoc : oc.data = .cell (some (.ref sg)))
    (F : Fr h₀ L s.heap m) (N : News h₀ L s.heap ((line, instObj 59 ld) :: (ld, dictOf (lineD w t1 t2 t3 t4 u1 u2 n st pb) 4) :: (st, instObj 59 sd) :: (sd, dictOf (streamD w e1 e2 e3 e4 e5 e6 e7 pb2 pc) k2) ::
      (pc, pieceO qual cs doc md cc ct) :: (cc, occ) :: (cs, oc) :: (sg, listOf ([] : List Value).toArray j) :: (it, ciObj qm tq0) :: (qm, methodObj (.ref 42) (.ref line)) :: rest))
    (hni : ∀ p ∈ ((line, instObj 59 ld) :: (ld, dictOf (lineD w t1 t2 t3 t4 u1 u2 n st pb) 4) :: (st, instObj 59 sd) :: (sd, dictOf (streamD w e1 e2 e3 e4 e5 e6 e7 pb2 pc) k2) ::
      (pc, pieceO qual cs doc md cc ct) :: (cc, occ) :: (cs, oc) :: (sg, listOf ([] : List Value).toArray j) :: (qm, methodObj (.ref 42) (.ref line)) :: rest), p.1 ≠ it)
    (hret : ∀ h' tk', Fr h₀ L h' m → News h₀ L h' ((line, instObj 59 ld) :: (ld, dictOf (lineD w t1 t2 t3 t4 u1 u2 n st pb) 4) :: (st, instObj 59 sd) :: (sd, dictOf (streamD w e1 e2 e3 e4 e5 e6 e7 pb2 pc) k2) ::
      (pc, pieceO qual cs doc md cc ct) :: (cc, occ) :: (cs, oc) :: (sg, listOf ([] : List Value).toArray j) :: (qm, methodObj (.ref 42) (.ref line)) :: rest) → R (.ok .next) { s with heap := h', toks := tk' }) :
    codeAny (model PR w) (AA none dp (tokE L) outer gd un) (.forLoop (.Name (Str.ofString "ch") px) (.ref it) (fnB outerF) [] (tokE L)) R s := by
  refine codeAny_forLoop (fun n s' => n = 0 ∧ s' = s) ?_ 0 ⟨rfl, rfl⟩
  rintro nn s' ⟨rfl, rfl⟩
  obtain ⟨of, fd, hf, hfd⟩ := fn42 (X.keeps F.keep)
  have mi' : (it, ciObj qm tq0) ∈ ((line, instObj 59 ld) :: (ld, dictOf (lineD w t1 t2 t3 t4 u1 u2 n st pb) 4) :: (st, instObj 59 sd) :: (sd, dictOf (streamD w e1 e2 e3 e4 e5 e6 e7 pb2 pc) k2) ::
      (pc, pieceO qual cs doc md cc ct) :: (cc, occ) :: (cs, oc) :: (sg, listOf ([] : List Value).toArray j) :: (it, ciObj qm tq0) :: (qm, methodObj (.ref 42) (.ref line)) :: rest) := by
    iterate 8 refine List.Mem.tail _ ?_
    exact .head _
  have mq' : (qm, methodObj (.ref 42) (.ref line)) ∈ ((line, instObj 59 ld) :: (ld, dictOf (lineD w t1 t2 t3 t4 u1 u2 n st pb) 4) :: (st, instObj 59 sd) :: (sd, dictOf (streamD w e1 e2 e3 e4 e5 e6 e7 pb2 pc) k2) ::
      (pc, pieceO qual cs doc md cc ct) :: (cc, occ) :: (cs, oc) :: (sg, listOf ([] : List Value).toArray j) :: (it, ciObj qm tq0) :: (qm, methodObj (.ref 42) (.ref line)) :: rest) := by
    iterate 9 refine List.Mem.tail _ ?_
    exact .head _
  refine ci_end rfl (N.get mi') (N.get mq') hf hfd ?_
  refine read_end (hnd := none) (dp := dp) (env := tokE L) (outer := outer) (gd := gd) (un := un + 1) (j := j) B F X N T rfl rfl (by omega) H hocc hfv hoc ?_
  intro h' tk' t F' N'
  obtain ⟨of', fd', hf', hfd'⟩ := fn42 (X.keeps F'.keep)
  refine ⟨t, of', fd', rfl, N'.get mi', N'.get mq', hf', hfd', fun h2 hx => ?_⟩
  refine wpAny_execs_nil (hret h2 tk' ?_ ?_)
  · obtain ⟨oL, a1, a2, hL, a3⟩ := F'.ns
    have hLi : L ≠ it := fun e => (N' _ mi').2.1 e.symm
    refine ⟨⟨oL, a1, a2, hx L oL hLi hL, a3⟩, fun b o e => hx b o ?_ (F'.keep b o e), F'.above⟩
    rintro rfl
    have := (N' _ mi').2.2
    rw [e] at this
    cases this
  · intro p hp
    have hp' : p ∈ ((line, instObj 59 ld) :: (ld, dictOf (lineD w t1 t2 t3 t4 u1 u2 n st pb) 4) :: (st, instObj 59 sd) :: (sd, dictOf (streamD w e1 e2 e3 e4 e5 e6 e7 pb2 pc) k2) ::
      (pc, pieceO qual cs doc md cc ct) :: (cc, occ) :: (cs, oc) :: (sg, listOf ([] : List Value).toArray j) :: (it, ciObj qm tq0) :: (qm, methodObj (.ref 42) (.ref line)) :: rest) := mem_pick [0, 1, 2, 3, 4, 5, 6, 7, 9] 10 rfl p hp
    exact ⟨hx p.1 p.2 (hni p hp) (N' p hp').1, (N' p hp').2⟩
local macro_rules | `(tactic| walk_at "call builtin:iter") => `(tactic| (k_here; (try dsimp only [List.cons_append, List.nil_append]); (with_reducible show wpAny _ _ (call (Value.builtin _) [Value.ref _, Value.str _ _]) _ _ _); k_dflt (refine' iter2 ?F ?N ?m ?_; (case F => k_asm); (case N => k_asm); (case m => k_mem)); intro it' h' F' N' l1))
theorem gm_start {line it : Nat} {tok : Str} {tt : Tok} {f : Str → Option Value} (h1 : f (Str.ofString "ch") = none) (h2 : f (Str.ofString "self") = some (.ref line)) (h3 : ∀ y, y ≠ Str.ofString "self" → f y = none) :
    (fun y => if y = Str.ofString "fiter" then some (Value.ref it) else if y = Str.ofString "token" then some (.str tok tt) else f y) = gm line it none tok tt := by
  funext y
  simp only [gm]
  by_cases a1 : y = Str.ofString "ch"
  · subst a1
    rw [if_neg (by decide +kernel), if_neg (by decide +kernel), if_pos rfl, h1]
  · rw [if_neg a1]
    by_cases a2 : y = Str.ofString "token"
    · subst a2
      rw [if_neg (by decide +kernel), if_pos rfl, if_pos rfl]
    · rw [if_neg a2, if_neg a2]
      by_cases a3 : y = Str.ofString "fiter"
      · rw [if_pos a3, if_pos a3]
      · rw [if_neg a3, if_neg a3]
        by_cases a4 : y = Str.ofString "self"
        · subst a4
          rw [if_pos rfl, h2]
        · rw [if_neg a4, h3 y a4]
theorem gm_start2 {line it : Nat} {tok : Str} {tt : Tok} : (fun y => if y = Str.ofString "fiter" then some (Value.ref it) else if y = Str.ofString "token" then some (.str tok tt) else List.lookup y [(Str.ofString "self", Value.ref line)]) = gm line it none tok tt :=
  gm_start rfl rfl (by
    intro y hy
    rw [List.lookup_cons, beq_eq_false_iff_ne.mpr hy]
    rfl)
theorem news12 {g h : Heap} {L : Addr} {i q l d p s e c k z y : Addr × Obj} {rest : List (Addr × Obj)} (N : News g L h (i :: q :: l :: d :: p :: s :: e :: c :: k :: z :: y :: rest)) : News g L h (l :: d :: s :: e :: c :: k :: z :: y :: p :: i :: q :: rest) := news_pick N [2, 3, 5, 6, 7, 8, 9, 10, 4, 0, 1] 11
theorem news10 {g h : Heap} {L : Addr} {i q l d p s e c k z y : Addr × Obj} {rest : List (Addr × Obj)} (N : News g L h (l :: d :: s :: e :: c :: k :: z :: y :: p :: i :: q :: rest)) : News g L h (l :: d :: p :: s :: e :: c :: k :: z :: y :: rest) := news_pick N [0, 1, 8, 2, 3, 4, 5, 6, 7] 11
theorem fr_start {line it : Nat} {tok : Str} {tt : Tok} {g h : Heap} {L : Addr} (F : Fr g L h (fun y => if y = Str.ofString "fiter" then some (Value.ref it) else if y = Str.ofString "token" then some (.str tok tt) else List.lookup y [(Str.ofString "self", Value.ref line)])) : Fr g L h (gm line it none tok tt) := by
  rw [← gm_start2]; exact F
theorem news12e {g h : Heap} {L : Addr} {i q l d p s e c k z y : Addr × Obj} {rest : List (Addr × Obj)} (N : News g L h (i :: q :: l :: d :: p :: s :: e :: c :: k :: z :: y :: rest)) : News g L h (l :: d :: s :: e :: c :: k :: z :: y :: i :: q :: p :: rest) := news_pick N [2, 3, 5, 6, 7, 8, 9, 10, 0, 1, 4] 11
theorem news10e {g h : Heap} {L : Addr} {q l d p s e c k z y : Addr × Obj} {rest : List (Addr × Obj)} (N : News g L h (l :: d :: s :: e :: c :: k :: z :: y :: q :: p :: rest)) : News g L h (l :: d :: p :: s :: e :: c :: k :: z :: y :: rest) := news_pick N [0, 1, 9, 2, 3, 4, 5, 6, 7] 10
theorem tok_e  (B : Below A₀ base outer h₀) (F : Fr h₀ L s.heap m) (X : (hd.heap_39 w.params).In h₀) (T : Top TP TL mean mg mb h₀) (hf : env.frame = some L) (hke : env.scope.kind = .function) (hroom : dp + 32 < recursionLimit) (H : CodeHd base 132 128)
    (hocc : occ.data = .fields fvs) (hfv : fvs[1]? = some (.str qual tq)) (hoc : oc.data = .cell (some (.ref sg)))
    (o2 : sg ≠ line) (o3 : sg ≠ ld) (o4 : sg ≠ st) (o5 : sg ≠ sd) (o6 : sg ≠ pc) (o7 : sg ≠ cs) (o8 : sg ≠ cc) (o9 : pb ≠ sg) (hr : ∀ p ∈ rest, p.1 ≠ sg)
    (N : News h₀ L s.heap ((line, instObj 59 ld) :: (ld, dictOf (lineD w t1 t2 t3 t4 u1 u2 n st pb) 4) :: (pb, listOf ([] : List Value).toArray jp) :: (st, instObj 59 sd) :: (sd, dictOf (streamD w e1 e2 e3 e4 e5 e6 e7 pb2 pc) k2) ::
      (pc, pieceO qual cs doc md cc ct) :: (cc, occ) :: (cs, oc) :: (sg, listOf ([] : List Value).toArray j) :: rest))
    
    (hret : ∀ h' tk' t', Fr h₀ L h' m → News h₀ L h' ((line, instObj 59 ld) :: (ld, dictOf (lineD w t1 t2 t3 t4 u1 u2 n st pb) 4) :: (pb, listOf ([] : List Value).toArray jp) :: (st, instObj 59 sd) :: (sd, dictOf (streamD w e1 e2 e3 e4 e5 e6 e7 pb2 pc) k2) ::
      (pc, pieceO qual cs doc md cc ct) :: (cc, occ) :: (cs, oc) :: (sg, listOf ([] : List Value).toArray j) :: rest) → Q (.str (Str.ofString "") t') { s with heap := h', toks := tk' }) :
    wpAny (model PR w) (AA none dp env outer gd un) (call (.ref 49) [.ref line]) Q E s := by
  refine wpAny_call ?_
  k_dflt (refine' code_def ?k1 ?k2 ?k3 ?k4 ?k5 ?kA ?kF ?kK ?k6 ?k7 ?k8 ?k9 ?kB ?_ ?c2 ?c3 ?c4 ?c5; (case kA => exact rfl); (case kF => assumption); (case kK => assumption); (case k1 => k_asm); (case k2 => k_asm); (case k3 => k_asm); (case k4 => k_asm); (case k5 => k_asm); (case k6 => k_is); (case k7 => k_is); (case k8 => (dsimp only [AA]; omega)); (case k9 => exact BindsTo.of_eq rfl); (case c5 => decide); (case kB => exact locs rfl); (case c2 => exact rfl); (case c3 => exact rfl); (case c4 => exact rfl); k_whole; intro g' L' h' FG' F' N' B' X' T'; (try dsimp only); (try k_fold))
  k_steps
  with_reducible rename News _ _ _ _ => N9
  rename_i q' h2 l1 it' h3 l2 h4 F9
  refine wpAny_For ?_
  k_steps
  refine ci_iter (N9.get (.head _)) ?_
  have F8 := fr_start (line := line) (it := it') F9
  have N8 := news12e N9
  refine outer_e (tt := tk) B' X' T' (by simp only [depth_deeper]; omega) H hocc hfv hoc F8 N8 ?_ ?_
  · intro p hp
    exact Nat.ne_of_lt (l2 p (mem_pick [1, 2, 4, 5, 6, 7, 8, 9, 0, 3] 10 rfl p hp))
  intro h6 tk6 F6 N6
  show wpAny _ _ (execs _ _) _ _ _
  clear F9 N9 F8 N8
  have F7 : Fr g' L' h6 (gm line it' none (Str.ofString "") _) := F6
  clear F6
  k_steps
  exact hret _ _ _ (by assumption) (news10e (by assumption))
theorem tok_q {q0 qp : Str × Tok} {ds xs : List (Str × Tok)} {W : Str} (B : Below A₀ base outer h₀) (F : Fr h₀ L s.heap m) (X : (hd.heap_39 w.params).In h₀) (T : Top TP TL mean mg mb h₀) (hf : env.frame = some L) (hke : env.scope.kind = .function) (hroom : dp + 32 < recursionLimit) (H : CodeHd base 132 128)
    (hocc : occ.data = .fields fvs) (hfv : fvs[1]? = some (.str qual tq)) (hoc : oc.data = .cell (some (.ref sg)))
    (o2 : sg ≠ line) (o3 : sg ≠ ld) (o4 : sg ≠ st) (o5 : sg ≠ sd) (o6 : sg ≠ pc) (o7 : sg ≠ cs) (o8 : sg ≠ cc) (o9 : pb ≠ sg) (hr : ∀ p ∈ rest, p.1 ≠ sg)
    (N : News h₀ L s.heap ((line, instObj 59 ld) :: (ld, dictOf (lineD w t1 t2 t3 t4 u1 u2 n st pb) 4) :: (pb, listOf ([] : List Value).toArray jp) :: (st, instObj 59 sd) :: (sd, dictOf (streamD w e1 e2 e3 e4 e5 e6 e7 pb2 pc) k2) ::
      (pc, pieceO qual cs doc md cc ct) :: (cc, occ) :: (cs, oc) :: (sg, listOf (SV (q0 :: ds ++ qp :: xs)).toArray j) :: rest))
    (hq0 : q0.1 = Str.ofString "\"") (hqp : qp.1 = Str.ofString "\"") (hds : ∀ p ∈ ds, QD p.1) (hW : Str.ofString "" ++ cat ds = W) (hWl : W.length ≤ 1000) (hlen : (q0 :: ds ++ qp :: xs).length < 1000)
    (hret : ∀ h' tk' j' t', Fr h₀ L h' m → News h₀ L h' ((line, instObj 59 ld) :: (ld, dictOf (lineD w t1 t2 t3 t4 u1 u2 n st pb) 4) :: (pb, listOf ([] : List Value).toArray jp) :: (st, instObj 59 sd) :: (sd, dictOf (streamD w e1 e2 e3 e4 e5 e6 e7 pb2 pc) k2) ::
      (pc, pieceO qual cs doc md cc ct) :: (cc, occ) :: (cs, oc) :: (sg, listOf (SV xs).toArray j') :: rest) → Q (.str W t') { s with heap := h', toks := tk' }) :
    wpAny (model PR w) (AA hnd dp env outer gd un) (call (.ref 49) [.ref line]) Q E s := by
  refine wpAny_call ?_
  k_dflt (refine' code_def ?k1 ?k2 ?k3 ?k4 ?k5 ?kA ?kF ?kK ?k6 ?k7 ?k8 ?k9 ?kB ?_ ?c2 ?c3 ?c4 ?c5; (case kA => exact rfl); (case kF => assumption); (case kK => assumption); (case k1 => k_asm); (case k2 => k_asm); (case k3 => k_asm); (case k4 => k_asm); (case k5 => k_asm); (case k6 => k_is); (case k7 => k_is); (case k8 => (dsimp only [AA]; omega)); (case k9 => exact BindsTo.of_eq rfl); (case c5 => decide); (case kB => exact locs rfl); (case c2 => exact rfl); (case c3 => exact rfl); (case c4 => exact rfl); k_whole; intro g' L' h' FG' F' N' B' X' T'; (try dsimp only); (try k_fold))
  k_steps
  with_reducible rename News _ _ _ _ => N9
  rename_i q' h2 l1 it' h3 l2 h4 F9
  refine wpAny_For ?_
  k_steps
  refine ci_iter (N9.get (.head _)) ?_
  have F8 := fr_start (line := line) (it := it') F9
  have sl := l2 _ (.tail _ (.tail _ (.tail _ (.tail _ (.tail _ (.tail _ (.tail _ (.tail _ (.tail _ (.head _))))))))))
  have dl := l2 _ (.tail _ (.tail _ (.head _)))
  have ar : ∀ p ∈ rest, p.1 < it' := fun p hp => l2 _ (.tail _ (.tail _ (.tail _ (.tail _ (.tail _ (.tail _ (.tail _ (.tail _ (.tail _ (.tail _ hp))))))))))
  have N8 := news12 N9
  refine outer_q (q0 := q0) (qp := qp) (ds := ds) (xs := xs) (W := W) B' X' T' (by simp only [depth_deeper]; omega) H hocc hfv hoc o2 o3 o4 o5 o6 o7 o8 (by
    intro p hp
    simp only [List.mem_cons] at hp
    rcases hp with rfl | rfl | rfl | hp
    · exact o9
    · exact Nat.ne_of_gt sl
    · exact Nat.ne_of_gt l1.2.2.2.2.2.2.2.2.1
    · exact hr p hp) (.tail _ (.head _)) (.tail _ (.tail _ (.head _))) F8 N8 hq0 hqp hds hW hWl hlen ?_
  intro h6 tk6 j6 t6 F3 N3
  obtain ⟨m3, F3⟩ := F3
  exact leaveK_ F3 N3 (fun F N => hret _ _ _ _ F (news10 N))
theorem tok_p {d0 qp : Str × Tok} {ds xs : List (Str × Tok)} {W : Str} (B : Below A₀ base outer h₀) (F : Fr h₀ L s.heap m) (X : (hd.heap_39 w.params).In h₀) (T : Top TP TL mean mg mb h₀) (hf : env.frame = some L) (hke : env.scope.kind = .function) (hroom : dp + 32 < recursionLimit) (H : CodeHd base 132 128)
    (hocc : occ.data = .fields fvs) (hfv : fvs[1]? = some (.str qual tq)) (hoc : oc.data = .cell (some (.ref sg)))
    (o2 : sg ≠ line) (o3 : sg ≠ ld) (o4 : sg ≠ st) (o5 : sg ≠ sd) (o6 : sg ≠ pc) (o7 : sg ≠ cs) (o8 : sg ≠ cc) (o9 : pb ≠ sg) (hr : ∀ p ∈ rest, p.1 ≠ sg)
    (N : News h₀ L s.heap ((line, instObj 59 ld) :: (ld, dictOf (lineD w t1 t2 t3 t4 u1 u2 n st pb) 4) :: (pb, listOf ([] : List Value).toArray jp) :: (st, instObj 59 sd) :: (sd, dictOf (streamD w e1 e2 e3 e4 e5 e6 e7 pb2 pc) k2) ::
      (pc, pieceO qual cs doc md cc ct) :: (cc, occ) :: (cs, oc) :: (sg, listOf (SV (d0 :: ds ++ qp :: xs)).toArray j) :: rest))
    (hd0 : PD d0.1) (hd0q : (d0.1 == Str.ofString "\"") = false) (hqp : inWs qp.1 = false) (hqn : qp.1 ≠ Str.ofString "\n") (hqe : qp.1 ≠ Str.ofString "") (hds : ∀ p ∈ ds, PD p.1) (hW : (Str.ofString "" ++ d0.1) ++ cat ds = W) (hWl : W.length ≤ 1000) (hlen : (d0 :: ds ++ qp :: xs).length < 1000)
    (hret : ∀ h' tk' j' t', Fr h₀ L h' m → News h₀ L h' ((line, instObj 59 ld) :: (ld, dictOf (lineD w t1 t2 t3 t4 u1 u2 n st pb) 4) :: (pb, listOf ([] : List Value).toArray jp) :: (st, instObj 59 sd) :: (sd, dictOf (streamD w e1 e2 e3 e4 e5 e6 e7 pb2 pc) k2) ::
      (pc, pieceO qual cs doc md cc ct) :: (cc, occ) :: (cs, oc) :: (sg, listOf (SV xs).toArray j') :: rest) → Q (.str W t') { s with heap := h', toks := tk' }) :
    wpAny (model PR w) (AA hnd dp env outer gd un) (call (.ref 49) [.ref line]) Q E s := by
  refine wpAny_call ?_
  k_dflt (refine' code_def ?k1 ?k2 ?k3 ?k4 ?k5 ?kA ?kF ?kK ?k6 ?k7 ?k8 ?k9 ?kB ?_ ?c2 ?c3 ?c4 ?c5; (case kA => exact rfl); (case kF => assumption); (case kK => assumption); (case k1 => k_asm); (case k2 => k_asm); (case k3 => k_asm); (case k4 => k_asm); (case k5 => k_asm); (case k6 => k_is); (case k7 => k_is); (case k8 => (dsimp only [AA]; omega)); (case k9 => exact BindsTo.of_eq rfl); (case c5 => decide); (case kB => exact locs rfl); (case c2 => exact rfl); (case c3 => exact rfl); (case c4 => exact rfl); k_whole; intro g' L' h' FG' F' N' B' X' T'; (try dsimp only); (try k_fold))
  k_steps
  with_reducible rename News _ _ _ _ => N9
  rename_i q' h2 l1 it' h3 l2 h4 F9
  refine wpAny_For ?_
  k_steps
  refine ci_iter (N9.get (.head _)) ?_
  have F8 := fr_start (line := line) (it := it') F9
  have sl := l2 _ (.tail _ (.tail _ (.tail _ (.tail _ (.tail _ (.tail _ (.tail _ (.tail _ (.tail _ (.head _))))))))))
  have dl := l2 _ (.tail _ (.tail _ (.head _)))
  have ar : ∀ p ∈ rest, p.1 < it' := fun p hp => l2 _ (.tail _ (.tail _ (.tail _ (.tail _ (.tail _ (.tail _ (.tail _ (.tail _ (.tail _ (.tail _ hp))))))))))
  have N8 := news12 N9
  refine outer_p (d0 := d0) (qp := qp) (ds := ds) (xs := xs) (W := W) B' X' T' (by simp only [depth_deeper]; omega) H hocc hfv hoc o2 o3 o4 o5 o6 o7 o8 (by
    intro p hp
    simp only [List.mem_cons] at hp
    rcases hp with rfl | rfl | rfl | hp
    · exact o9
    · exact Nat.ne_of_gt sl
    · exact Nat.ne_of_gt l1.2.2.2.2.2.2.2.2.1
    · exact hr p hp) (.tail _ (.head _)) (.tail _ (.tail _ (.head _))) F8 N8 hd0 hd0q hqp hqn hqe hds hW hWl hlen ?_
  intro h6 tk6 j6 t6 F3 N3
  obtain ⟨m3, F3⟩ := F3
  exact leaveK_ F3 N3 (fun F N => hret _ _ _ _ F (news10 N))
theorem tok_b {d0 : (Str × Tok) × (Str × Tok)} {qp : Str × Tok} {ds : List ((Str × Tok) × (Str × Tok))} {xs : List (Str × Tok)} {W : Str} (B : Below A₀ base outer h₀) (F : Fr h₀ L s.heap m) (X : (hd.heap_39 w.params).In h₀) (T : Top TP TL mean mg mb h₀) (hf : env.frame = some L) (hke : env.scope.kind = .function) (hroom : dp + 32 < recursionLimit) (H : CodeHd base 132 128)
    (hocc : occ.data = .fields fvs) (hfv : fvs[1]? = some (.str qual tq)) (hoc : oc.data = .cell (some (.ref sg)))
    (o2 : sg ≠ line) (o3 : sg ≠ ld) (o4 : sg ≠ st) (o5 : sg ≠ sd) (o6 : sg ≠ pc) (o7 : sg ≠ cs) (o8 : sg ≠ cc) (o9 : pb ≠ sg) (hr : ∀ p ∈ rest, p.1 ≠ sg) (q1 : ld ≠ line) (q2 : ld ≠ st) (q3 : ld ≠ sd) (q4 : ld ≠ pc) (q5 : ld ≠ cs) (q6 : ld ≠ cc) (q7 : pb ≠ ld) (hr2 : ∀ p ∈ rest, p.1 ≠ ld)
    (N : News h₀ L s.heap ((line, instObj 59 ld) :: (ld, dictOf (lineD w t1 t2 t3 t4 u1 u2 n st pb) 4) :: (pb, listOf ([] : List Value).toArray jp) :: (st, instObj 59 sd) :: (sd, dictOf (streamD w e1 e2 e3 e4 e5 e6 e7 pb2 pc) k2) ::
      (pc, pieceO qual cs doc md cc ct) :: (cc, occ) :: (cs, oc) :: (sg, listOf (SV (d0.1 :: d0.2 :: fl ds ++ qp :: xs)).toArray j) :: rest))
    (hd0 : SD d0) (hd0q : (d0.1.1 == Str.ofString "\"") = false) (hqp : qp.1 = Str.ofString "\n") (hds : ∀ p ∈ ds, SD p) (hW : (Str.ofString "" ++ d0.2.1) ++ cat2 ds = W) (hWl : W.length ≤ 1000) (hlen : (d0.1 :: d0.2 :: fl ds ++ qp :: xs).length < 1000)
    (hret : ∀ h' tk' j' t' u1', Fr h₀ L h' m → News h₀ L h' ((line, instObj 59 ld) :: (ld, dictOf (lineD w t1 t2 t3 t4 u1' u2 (n + 1) st pb) 4) :: (pb, listOf ([] : List Value).toArray jp) :: (st, instObj 59 sd) :: (sd, dictOf (streamD w e1 e2 e3 e4 e5 e6 e7 pb2 pc) k2) ::
      (pc, pieceO qual cs doc md cc ct) :: (cc, occ) :: (cs, oc) :: (sg, listOf (SV xs).toArray j') :: rest) → Q (.str W t') { s with heap := h', toks := tk' }) :
    wpAny (model PR w) (AA hnd dp env outer gd un) (call (.ref 49) [.ref line]) Q E s := by
  refine wpAny_call ?_
  k_dflt (refine' code_def ?k1 ?k2 ?k3 ?k4 ?k5 ?kA ?kF ?kK ?k6 ?k7 ?k8 ?k9 ?kB ?_ ?c2 ?c3 ?c4 ?c5; (case kA => exact rfl); (case kF => assumption); (case kK => assumption); (case k1 => k_asm); (case k2 => k_asm); (case k3 => k_asm); (case k4 => k_asm); (case k5 => k_asm); (case k6 => k_is); (case k7 => k_is); (case k8 => (dsimp only [AA]; omega)); (case k9 => exact BindsTo.of_eq rfl); (case c5 => decide); (case kB => exact locs rfl); (case c2 => exact rfl); (case c3 => exact rfl); (case c4 => exact rfl); k_whole; intro g' L' h' FG' F' N' B' X' T'; (try dsimp only); (try k_fold))
  k_steps
  with_reducible rename News _ _ _ _ => N9
  rename_i q' h2 l1 it' h3 l2 h4 F9
  refine wpAny_For ?_
  k_steps
  refine ci_iter (N9.get (.head _)) ?_
  have F8 := fr_start (line := line) (it := it') F9
  have sl := l2 _ (.tail _ (.tail _ (.tail _ (.tail _ (.tail _ (.tail _ (.tail _ (.tail _ (.tail _ (.head _))))))))))
  have dl := l2 _ (.tail _ (.tail _ (.head _)))
  have ar : ∀ p ∈ rest, p.1 < it' := fun p hp => l2 _ (.tail _ (.tail _ (.tail _ (.tail _ (.tail _ (.tail _ (.tail _ (.tail _ (.tail _ (.tail _ hp))))))))))
  have N8 := news12 N9
  refine outer_b (d0 := d0) (qp := qp) (ds := ds) (xs := xs) (W := W) B' X' T' (by simp only [depth_deeper]; omega) H hocc hfv hoc o2 o3 o4 o5 o6 o7 o8 (by
    intro p hp
    simp only [List.mem_cons] at hp
    rcases hp with rfl | rfl | rfl | hp
    · exact o9
    · exact Nat.ne_of_gt sl
    · exact Nat.ne_of_gt l1.2.2.2.2.2.2.2.2.1
    · exact hr p hp) (.tail _ (.head _)) (.tail _ (.tail _ (.head _))) q1 q2 q3 q4 q5 q6 (by
    intro p hp
    simp only [List.mem_cons] at hp
    rcases hp with rfl | rfl | rfl | hp
    · exact q7
    · exact Nat.ne_of_gt dl
    · exact Nat.ne_of_gt l1.2.1
    · exact hr2 p hp) F8 N8 hd0 hd0q hqp hds hW hWl hlen ?_
  intro h6 tk6 j6 t6 u6 F3 N3
  obtain ⟨m3, F3⟩ := F3
  exact leaveK_ F3 N3 (fun F N => hret _ _ _ _ _ F (news10 N))
end
end Mine

end
section
theorem Mine.resetG1 : True := by
  w_top off
  trivial
open PySem PySem.W PyProof.Rows PySem.Calls PyProof.Rows.LCg
set_option Elab.async false
set_option maxRecDepth 100000
set_option maxHeartbeats 2000000
namespace Mine
structure Feed (prog : Program) (w : World) (A : Around) (I : Addr) (fp wr : List Addr) (n : Nat) (St : Nat → Heap → Prop) (target : Expr) (EnvOk : Env → Prop) (Bd : Nat → (Str → Option Value) → (Str → Option Value) → Prop) : Prop where
  sub : ∀ b ∈ wr, b ∈ fp
  frame : ∀ i h h', St i h → (∀ b ∈ fp, ∀ o, h.get? b = some o → h'.get? b = some o) → St i h'
  item : ∀ i (env : Env) (m : Str → Option Value) (s : Shared) (N Q : Shared → Prop) (E E₁ E₂ : Value → Shared → Prop), i < n → EnvOk env → St i s.heap → s.heap.Ns env.locals m → env.locals ∉ fp →
    (∀ h' tk mm, Bd i m mm → St (i + 1) h' → h'.Ns env.locals mm → (∀ b o, b ≠ env.locals → b ∉ wr → s.heap.get? b = some o → h'.get? b = some o) → Q { s with heap := h', toks := tk }) →
    wpAny (model prog w) A (pyNext (.ref I)) (fun r s₁ => match r with
      | none => N s₁
      | some v => wpAny (model prog w) A (letOwnedTupleGo target (.ref I) v) (fun _ s₀ => wpAny (model prog w) A (assign target env v) (fun _ s₂ => Q s₂) E₂ s₀) E₁ s₁) E s
  done : ∀ (s : Shared) (Q : Option Value → Shared → Prop) (E : Value → Shared → Prop), St n s.heap →
    (∀ h' tk, (∀ b o, b ∉ wr → s.heap.get? b = some o → h'.get? b = some o) → Q none { s with heap := h', toks := tk }) → wpAny (model prog w) A (pyNext (.ref I)) Q E s
  self : ∀ i (s : Shared) (Q : Value → Shared → Prop) (E : Value → Shared → Prop), St i s.heap → Q (.ref I) s → wpAny (model prog w) A (pyIter (.ref I)) Q E s
noncomputable abbrev up1 (x : Str) (v : Value) (m : Str → Option Value) : Str → Option Value := fun y => if y = x then some v else m y
noncomputable abbrev Ok1 (x : Str) (env : Env) : Prop := env.kindOf x = some .local ∧ (env.scope.kind == .class || (env.scope.kind == .module && env.locals != env.globals)) = false
noncomputable abbrev Bd1 (x : Str) (P : Nat → Value → Prop) (i : Nat) (m mm : Str → Option Value) : Prop := ∃ v, P i v ∧ mm = up1 x v m
noncomputable abbrev Bd2 (a b : Str) (P : Nat → Value → Value → Prop) (i : Nat) (m mm : Str → Option Value) : Prop := ∃ x y, P i x y ∧ mm = up1 b y (up1 a x m)
section
variable {prog : Program} {w : World} {A : Around} {E : Value → Shared → Prop} {s : Shared} {h₀ : Heap} {L : Addr} {m : Str → Option Value} {env : Env}
theorem Feed.name {I : Addr} {fp wr : List Addr} {n : Nat} {P : Nat → Value → Prop} {St : Nat → Heap → Prop} {x : Str} {px : Pos} (W : Walks prog w A I fp wr n P St) :
    Feed prog w A I fp wr n St (.Name x px) (Ok1 x) (Bd1 x P) where
  sub := W.sub
  frame := W.frame
  item := fun i env m s N Q E E₁ E₂ hi ok hst hn hLf hQ => by
    have hLw : env.locals ∉ wr := fun h => hLf (W.sub _ h)
    refine W.item i _ _ _ hi hst fun v h₁ tk₁ hP hst₁ hk₁ => ?_
    show wpAny _ _ (pure ()) _ _ _
    refine wpAny_pure ?_
    refine wpAny_assign_Name (wpAny_storeName_local ok.1 (hn.at' fun o e => hk₁ _ o hLw e) (fun h₂ hn₂ hs₂ => ?_) ok.2)
    exact hQ _ _ _ ⟨v, hP, rfl⟩ (W.frame _ _ _ hst₁ fun b hb o e => hs₂.extBut b o (fun h => hLf (h ▸ hb)) e) hn₂ fun b o h1 h2 e => hs₂.extBut b o h1 (hk₁ b o h2 e)
  done := W.done
  self := W.self
noncomputable abbrev Ok2 (a b : Str) (env : Env) : Prop := env.kindOf a = some .local ∧ env.kindOf b = some .local ∧ (env.scope.kind == .class || (env.scope.kind == .module && env.locals != env.globals)) = false
theorem Feed.pair {I : Addr} {fp wr : List Addr} {n : Nat} {Pt : Nat → Array Value → Prop} {P : Nat → Value → Value → Prop} {St : Nat → Heap → Prop} {Mid : Nat → Addr → Heap → Prop} {a b : Str} {pa pb tp : Pos} {kk : Nat} (W : WalksU prog w A I fp wr n Pt St Mid)
    (hPt : ∀ i vals, Pt i vals → ∃ x y, vals = #[x, y] ∧ P i x y) (hh : A.handled = none) :
    Feed prog w A I fp wr n St (.Tuple [.Name a pa, .Name b pb] kk tp) (Ok2 a b) (Bd2 a b P) where
  sub := W.sub
  frame := W.frame
  item := fun i env m s N Q E E₁ E₂ hi ok hst hn hLf hQ => by
    have hLw : env.locals ∉ wr := fun h => hLf (W.sub _ h)
    refine W.item i _ _ _ hi hst fun T vals h₂ tk₂ hP hT hMd hk₂ => ?_
    refine W.go _ _ _ i T _ _ _ hMd fun h₃ hst₃ hk₃ => ?_
    obtain ⟨x, y, rfl, hPxy⟩ := hPt i vals hP
    have hTw := W.apart _ _ _ hMd
    have up₃ : ∀ c o, c ∉ wr → s.heap.get? c = some o → h₃.get? c = some o := fun c o hc e => hk₃ c o hc (hk₂ c o hc e)
    refine kcp_assign (x := x) (y := y) hh (hT.at fun o e => hk₃ T o hTw e) ok.1 ok.2.1 ok.2.2 (hn.at' fun o e => up₃ _ o hLw e) fun h₄ tk₄ hn₄ hs₄ => ?_
    exact hQ _ _ _ ⟨x, y, hPxy, rfl⟩ (W.frame _ _ _ hst₃ fun b hb o e => hs₄ b o (fun q => hLf (q ▸ hb)) e) hn₄ fun b o h1 h2 e => hs₄ b o h1 (up₃ b o h2 e)
  done := W.done
  self := W.self
theorem forF {R : Result → Shared → Prop} {target : Expr} {body : List Stmt} {I : Addr} {fp wr : List Addr} {n : Nat} {St : Nat → Heap → Prop} {EnvOk : Env → Prop} {Bd : Nat → (Str → Option Value) → (Str → Option Value) → Prop} {news : List (Addr × Obj)}
    (W : Feed prog w A I fp wr n St target EnvOk Bd) (hE : EnvOk env) (hLf : env.locals ∉ fp) (hwr : ∀ b ∈ wr, h₀.get? b = none) (adr : List Addr) (hadr : ∀ a ∈ adr, a ∉ wr)
    (hst : St 0 s.heap) (F : Fr h₀ env.locals s.heap m) (N : News h₀ env.locals s.heap news) (J : Nat → (Str → Option Value) → List (Addr × Obj) → Prop) (hJa : ∀ i m news, J i m news → news.map (·.1) = adr) (h0 : J 0 m news)
    (step : ∀ i m₁ mm news₁ own h tk E', i < n → Bd i m₁ mm → J i m₁ news₁ → (∀ p ∈ own, p.1 ∈ fp) → Fr h₀ env.locals h mm → News h₀ env.locals h (news₁ ++ own) →
      wpAny (model prog w) A (execs body env) (fun f s' => f = .next ∧ ∃ h' tk' m₂ news₂, s' = { s with heap := h', toks := tk' } ∧ Fr h₀ env.locals h' m₂ ∧ News h₀ env.locals h' (news₂ ++ own) ∧ J (i + 1) m₂ news₂) E' { s with heap := h, toks := tk })
    (hR : ∀ h' tk m' news', Fr h₀ env.locals h' m' → News h₀ env.locals h' news' → J n m' news' → R (.ok .next) { s with heap := h', toks := tk }) :
    codeAny (model prog w) A (.forLoop target (.ref I) body [] env) R s := by
  have hLw : env.locals ∉ wr := fun h => hLf (W.sub _ h)
  have old : ∀ b o, h₀.get? b = some o → b ∉ wr := fun b o e hb => by rw [hwr b hb] at e; cases e
  have off : ∀ i m news, J i m news → ∀ p ∈ news, p.1 ∉ wr := fun i m news hJ p hp => hadr _ (hJa _ _ _ hJ ▸ List.mem_map.mpr ⟨p, hp, rfl⟩)
  have noL : h₀.get? env.locals = none := Heap.get?_none_of_le F.above
  refine codeAny_forLoop_any
    (fun k s' => ∃ h' tk m' news' i, s' = { s with heap := h', toks := tk } ∧ St i h' ∧ Fr h₀ env.locals h' m' ∧ News h₀ env.locals h' news' ∧ J i m' news' ∧ i ≤ n ∧ k = n + 1 - i) ?_ (n + 1)
    ⟨s.heap, s.toks, m, news, 0, rfl, hst, F, N, h0, Nat.zero_le _, rfl⟩
  rintro k s' ⟨h', tk, m', news', i, rfl, hst', F', N', hJ, hi, rfl⟩
  by_cases hlt : i < n
  · refine W.item i env m' _ _ _ _ _ _ hlt hE hst' F'.ns hLf fun h₂ tk₂ mm hBd hst₂ hn₂ hk₂ => ?_
    have F₂ : Fr h₀ env.locals h₂ mm := ⟨hn₂, fun b o e => hk₂ b o (fun q => by rw [q, noL] at e; cases e) (old b o e) (F'.keep b o e), F'.above⟩
    have Nown : News h₀ env.locals h₂ (PyProof.Rows.ownOf h₀ fp h₂) := news_ownOf hLf
    have N₂ : News h₀ env.locals h₂ (news' ++ PyProof.Rows.ownOf h₀ fp h₂) := fun p hp => (List.mem_append.mp hp).elim (fun h => ⟨hk₂ _ _ (N' p h).2.1 (off _ _ _ hJ p h) (N' p h).1, (N' p h).2⟩) fun h => Nown p h
    refine wpAny_mono (step i m' mm news' _ h₂ tk₂ _ hlt hBd hJ ownOf_sub F₂ N₂) (fun f s₃ h₃ => ?_) fun _ _ e => e
    obtain ⟨rfl, h₃', tk₃, m₂, news₂, rfl, F₃, N₃, hJ₃⟩ := h₃
    refine ⟨n + 1 - (i + 1), by omega, h₃', tk₃, m₂, news₂, i + 1, rfl, ?_, F₃, fun p hp => N₃ p (List.mem_append_left _ hp), hJ₃, hlt, rfl⟩
    refine W.frame _ _ _ hst₂ fun b hb o e => ?_
    cases hn : h₀.get? b with
    | some o₀ =>
      have : o₀ = o := by have := F₂.keep b o₀ hn; rw [e] at this; exact (Option.some.inj this).symm
      exact this ▸ F₃.keep b o₀ hn
    | none => exact (N₃ _ (List.mem_append_right _ (mem_ownOf hb hn e))).1
  · have hin : i = n := by omega
    subst hin
    refine W.done _ _ _ hst' fun h₁ tk₁ hk₁ => wpAny_execs_nil ?_
    exact hR h₁ tk₁ m' news' ⟨F'.ns.at' fun o e => hk₁ _ o hLw e, fun b o e => hk₁ b o (old b o e) (F'.keep b o e), F'.above⟩ (fun p hp => ⟨hk₁ _ _ (off _ _ _ hJ p hp) (N' p hp).1, (N' p hp).2⟩) hJ
noncomputable def EltPost (h₀ : Heap) (L : Addr) (m : Str → Option Value) (C : Addr) (oC : Obj) (D : Addr) (ys : List Value) (own : List (Addr × Obj)) (J : List Value → List (Addr × Obj) → Prop) (s : Shared) (v : Value) (s' : Shared) : Prop :=
  ∃ h' tk' news', s' = { s with heap := h', toks := tk' } ∧ Fr h₀ L h' m ∧ News h₀ L h' ((C, oC) :: (D, lst ys) :: (news' ++ own)) ∧ J (ys ++ [v]) news'
theorem EltPost.mk {h₀ : Heap} {L : Addr} {m : Str → Option Value} {C : Addr} {oC : Obj} {D : Addr} {ys : List Value} {own : List (Addr × Obj)} {J : List Value → List (Addr × Obj) → Prop} {s : Shared} {v : Value} {h' : Heap} {tk' : Nat} (news' : List (Addr × Obj))
    (F : Fr h₀ L h' m) (N : News h₀ L h' ((C, oC) :: (D, lst ys) :: (news' ++ own))) (j : J (ys ++ [v]) news') : EltPost h₀ L m C oC D ys own J s v { s with heap := h', toks := tk' } := ⟨h', tk', news', rfl, F, N, j⟩
noncomputable def StepF (prog : Program) (w : World) (A : Around) (h₀ : Heap) (L : Addr) (m : Str → Option Value) (env : Env) (elt : Expr) (scope : Scope) (cl : List (Str × Addr)) (s : Shared) (fp : List Addr) (n : Nat) (Bd : Nat → (Str → Option Value) → (Str → Option Value) → Prop) (J : Nat → List Value → List (Addr × Obj) → Prop) : Prop :=
  ∀ i C oC D m₁ m₂ ys news own h tk (E' : Value → Shared → Prop), i < n → Bd i m₁ m₂ → NsObj oC m₂ → J i ys news → (∀ p ∈ own, p.1 ∈ fp) → (∀ p ∈ news, p.1 < D ∧ p.1 < C) → (∀ b ∈ fp, b < D ∧ b < C) → Fr h₀ L h m → News h₀ L h ((C, oC) :: (D, lst ys) :: (news ++ own)) →
    wpAny (model prog w) A (eval elt (compEnvC scope cl C env)) (EltPost h₀ L m C oC D ys own (J (i + 1)) s) E' { s with heap := h, toks := tk }
theorem blockF {elt iter target : Expr} {scope : Scope} {cl : List (Str × Addr)} {pos : Pos} {s₂ : Shared} {I : Addr} {fp wr : List Addr} {n : Nat} {St : Nat → Heap → Prop} {EnvOk : Env → Prop} {Bd : Nat → (Str → Option Value) → (Str → Option Value) → Prop}
    {news : List (Addr × Obj)} {RR : Value → Addr → Result → Shared → Prop}
    (W : Feed prog w A I fp wr n St target EnvOk Bd) (hE : ∀ C, EnvOk (compEnvC scope cl C env)) (hsz : n ≤ sizeLine)
    (hcell : ∀ y ∈ scope.names, y.2 ≠ .cell) (hkind : scope.kind = .function)
    (hst : St 0 s₂.heap) (hfp : ∀ b ∈ fp, b < s₂.heap.objs.size) (F : Fr h₀ L s₂.heap m) (N : News h₀ L s₂.heap news) (hLf : L ∉ fp) (hwr : ∀ b ∈ wr, h₀.get? b = none) (adr : List Addr) (hadr : ∀ a ∈ adr, a ∉ wr)
    (J : Nat → List Value → List (Addr × Obj) → Prop) (hJa : ∀ i ys news, J i ys news → news.map (·.1) = adr) (hJl : ∀ i ys news, J i ys news → ys.length = i) (h0 : J 0 [] news)
    (step : StepF prog w A h₀ L m env elt scope cl s₂ fp n Bd J)
    (hRR : ∀ D C h tk m' ys news', J n ys news' → Fr h₀ L h m → News h₀ L h ((D, lst ys) :: news') → h.Ns C m' → h₀.get? C = none → h₀.get? D = none → C ≠ L → D ≠ L → C ≠ D → (∀ p ∈ news', p.1 < D) → (∀ p ∈ news', p.1 ≠ C) → RR (.ref D) C (.ok .next) { s₂ with heap := h, toks := tk }) :
    wpAny (model prog w) A (newList []) (fun acc s₃ => wpAny (model prog w) A (newFunctionEnv scope env.globals cl [] env.qual none .none (some env)) (fun cenv s₄ =>
      codeAny (model prog w) A (.compStart (.ListComp elt [⟨target, iter, [], 0⟩] scope pos) 0 (.ref I) acc { cenv with scope := relabel scope env }) (RR acc cenv.locals) s₄) E s₃) E s₂ := by
  refine wpAny_newObj_type (wpAny_newFunctionEnv hcell (by intro y hy; simp at hy) (fun h₁ hns₁ hsb₁ => ?_) hkind)
  dsimp only at hns₁ hsb₁ ⊢
  generalize hH2 : s₂.heap.push { cls := .type "list", dict := none, data := .seq ([] : List Value).toArray } = H2 at hns₁ hsb₁ ⊢
  have hC : H2.objs.size = s₂.heap.objs.size + 1 := by rw [← hH2, Heap.size_push]
  have hDC : s₂.heap.objs.size ≠ H2.objs.size := by rw [hC]; exact Nat.ne_of_lt (Nat.lt_succ_self _)
  have below : ∀ b, b < s₂.heap.objs.size → b ≠ H2.objs.size ∧ b ≠ s₂.heap.objs.size := fun b hb => ⟨by rw [hC]; exact Nat.ne_of_lt (Nat.lt_succ_of_lt hb), Nat.ne_of_lt hb⟩
  have hDf : s₂.heap.objs.size ∉ fp := fun hm => Nat.lt_irrefl _ (hfp _ hm)
  have hCf : H2.objs.size ∉ fp := fun hm => by have := hfp _ hm; rw [hC] at this; exact Nat.lt_irrefl _ (Nat.lt_of_succ_lt this)
  have hCw : H2.objs.size ∉ wr := fun hm => hCf (W.sub _ hm)
  have hDw : s₂.heap.objs.size ∉ wr := fun hm => hDf (W.sub _ hm)
  have hLw : L ∉ wr := fun hm => hLf (W.sub _ hm)
  have old : ∀ b o, s₂.heap.get? b = some o → h₁.get? b = some o := fun b o e => hsb₁.extBut b o (below b (Heap.lt_size e)).1 (Heap.get?_push_of_some _ (hH2 ▸ Heap.get?_push_of_some _ e))
  have hacc : h₁.get? s₂.heap.objs.size = some (lst []) := hsb₁.extBut _ _ hDC (Heap.get?_push_of_some _ (hH2 ▸ Heap.get?_push_size _ rfl))
  have hst₁ : St 0 h₁ := W.frame _ _ _ hst fun b _ o e => old b o e
  have fresh : ∀ a, s₂.heap.objs.size ≤ a → s₂.heap.get? a = none := fun a ha => by
    cases e : s₂.heap.get? a with
    | none => rfl
    | some o' => exact absurd (Heap.lt_size e) (Nat.not_lt.mpr ha)
  have fresh₀ : ∀ a, s₂.heap.objs.size ≤ a → h₀.get? a = none := fun a ha => by
    cases e : h₀.get? a with
    | none => rfl
    | some o' => have := F.keep a o' e; rw [fresh a ha] at this; cases this
  have hD₀ : h₀.get? s₂.heap.objs.size = none := fresh₀ _ (Nat.le_refl _)
  have hC₀ : h₀.get? H2.objs.size = none := fresh₀ _ (by rw [hC]; exact Nat.le_succ _)
  have hLlt : L < s₂.heap.objs.size := F.ns.lt
  have hDL : s₂.heap.objs.size ≠ L := Ne.symm (below L hLlt).2
  have hCL : H2.objs.size ≠ L := Ne.symm (below L hLlt).1
  have offA : ∀ a ∈ adr, a < s₂.heap.objs.size := fun a ha => by
    rw [← hJa _ _ _ h0] at ha
    obtain ⟨p, hp, rfl⟩ := List.mem_map.mp ha
    exact Heap.lt_size (N p hp).1
  have inA : ∀ {i ys news}, J i ys news → ∀ p ∈ news, p.1 ∈ adr := fun hJ p hp => hJa _ _ _ hJ ▸ List.mem_map.mpr ⟨p, hp, rfl⟩
  have loop : ∀ s₃ : Shared, s₃ = { s₂ with heap := h₁, toks := s₂.toks + ([] : List (Str × Value)).length } →
      codeAny (model prog w) A (.compLoop (.ListComp elt [⟨target, iter, [], 0⟩] scope pos) 0 (.ref I) (.ref s₂.heap.objs.size) (compEnvC scope cl H2.objs.size env))
        (RR (.ref s₂.heap.objs.size) H2.objs.size) s₃ := by
    rintro s₃ rfl
    refine kcp_loop
      (fun k s' => ∃ h' tk i ys m' news', s' = { s₂ with heap := h', toks := tk } ∧ i ≤ n ∧ k = n + 1 - i ∧ J i ys news' ∧ St i h' ∧ Fr h₀ L h' m ∧ h'.Ns H2.objs.size m' ∧
        News h₀ L h' ((s₂.heap.objs.size, lst ys) :: news')) ?_ (n + 1)
      ⟨h₁, _, 0, [], _, news, rfl, Nat.zero_le _, rfl, h0, hst₁, F.keeps old, hns₁, fun p hp => ?_⟩
    · rintro k s' ⟨h', tk, i, ys, m', news', rfl, hi, rfl, hJ, hst', F', hn', N'⟩
      have hyl := hJl _ _ _ hJ
      by_cases hlt : i < n
      · refine W.item i (compEnvC scope cl H2.objs.size env) m' _ _ _ _ _ _ hlt (hE _) hst' hn' hCf fun h₄ tk₄ m₂ hBd hst₄ hn₄ hk₄ => ?_
        have hk₄ : ∀ b o, b ≠ H2.objs.size → b ∉ wr → h'.get? b = some o → h₄.get? b = some o := hk₄
        have hn₄ : h₄.Ns H2.objs.size m₂ := hn₄
        obtain ⟨oC, heC, hoC⟩ := ns_obj hn₄
        have F₄ : Fr h₀ L h₄ m := ⟨F'.ns.at' fun o e => hk₄ _ o (Ne.symm hCL) hLw e, fun c o e => hk₄ c o (fun q => by rw [q, hC₀] at e; cases e) (fun q => by rw [hwr c q] at e; cases e) (F'.keep c o e), F'.above⟩
        have NO : News h₀ L h₄ (PyProof.Rows.ownOf h₀ fp h₄) := news_ownOf hLf
        have N₄ : News h₀ L h₄ ((H2.objs.size, oC) :: (s₂.heap.objs.size, lst ys) :: (news' ++ PyProof.Rows.ownOf h₀ fp h₄)) := fun q hq => by
          rcases List.mem_cons.mp hq with rfl | hq
          · exact ⟨heC, hCL, hC₀⟩
          · rcases List.mem_cons.mp hq with rfl | hq
            · have z := N' _ (List.Mem.head _)
              exact ⟨hk₄ _ _ hDC hDw z.1, z.2⟩
            · rcases List.mem_append.mp hq with hq | hq
              · have z := N' _ (List.Mem.tail _ hq)
                exact ⟨hk₄ _ _ (below _ (offA _ (inA hJ q hq))).1 (hadr _ (inA hJ q hq)) z.1, z.2⟩
              · exact NO q hq
        refine wpAny_mono (step i H2.objs.size oC s₂.heap.objs.size m' m₂ ys news' _ h₄ _ _ hlt hBd hoC hJ ownOf_sub (fun p hp => ⟨offA _ (inA hJ p hp), by rw [hC]; exact Nat.lt_succ_of_lt (offA _ (inA hJ p hp))⟩) (fun b hb => ⟨hfp b hb, by rw [hC]; exact Nat.lt_succ_of_lt (hfp b hb)⟩) F₄ N₄) (fun v s₅ h₅ => ?_) fun _ _ e => e
        obtain ⟨h₅, tk₅, news₅, rfl, F₅, N₅, hJ₅⟩ := h₅
        have hst₅ : St (i + 1) h₅ := W.frame _ _ _ hst₄ fun b hb o e => by
          cases hn : h₀.get? b with
          | some o₀ =>
            have q := F₄.keep b o₀ hn
            rw [e] at q
            cases q
            exact F₅.keep b o hn
          | none => exact (N₅ _ (.tail _ (.tail _ (List.mem_append_right _ (mem_ownOf hb hn e))))).1
        have zC := (N₅ _ (List.Mem.head _)).1
        have zD := (N₅ _ (List.Mem.tail _ (List.Mem.head _))).1
        refine append_at (hsz := by show ys.toArray.size ≤ sizeLine; rw [List.size_toArray, hyl]; exact Nat.le_trans hi hsz) zD fun h₆ hs₆ hD₆ => ?_
        refine ⟨n + 1 - (i + 1), by omega, h₆, tk₅, i + 1, ys ++ [v], _, news₅, rfl, hlt, rfl, hJ₅, W.frame _ _ _ hst₅ fun b hb o e => hs₆.extBut b o (fun q => hDf (q ▸ hb)) e, F₅.change hs₆ hDL hD₀,
          (hoC.ns zC).sameBut hs₆ (Ne.symm hDC), fun q hq => ?_⟩
        rcases List.mem_cons.mp hq with rfl | hq
        · exact ⟨hD₆.trans (congrArg some (lst_snoc ys v)), hDL, hD₀⟩
        · have z := N₅ q (.tail _ (.tail _ (List.mem_append_left _ hq)))
          exact ⟨hs₆.extBut _ _ (Nat.ne_of_lt (offA _ (inA hJ₅ q hq))) z.1, z.2⟩
      · have hin : i = n := Nat.le_antisymm hi (Nat.not_lt.mp hlt)
        subst hin
        refine W.done _ _ _ hst' fun h₂ tk₂ hk₂ => ?_
        refine hRR _ _ h₂ tk₂ _ ys news' hJ ⟨F'.ns.at' fun o e => hk₂ _ o hLw e, fun c o e => hk₂ c o (fun q => by rw [hwr c q] at e; cases e) (F'.keep c o e), F'.above⟩ (fun q hq => ?_) (hn'.at' fun o e => hk₂ _ o hCw e) hC₀ hD₀ hCL hDL (Ne.symm hDC) (fun p hp => offA _ (inA hJ p hp))
          (fun p hp => (below _ (offA _ (inA hJ p hp))).1)
        have z := N' q hq
        refine ⟨hk₂ _ _ ?_ z.1, z.2⟩
        rcases List.mem_cons.mp hq with rfl | hq
        · exact hDw
        · exact hadr _ (inA hJ q hq)
    · rcases List.mem_cons.mp hp with rfl | hp
      · exact ⟨hacc, hDL, hD₀⟩
      · exact ⟨old _ _ (N p hp).1, (N p hp).2⟩
  exact codeAny_compStart_list (loop _ rfl) (W.self 0 _ _ _ hst₁ (loop _ rfl))
/-- what the iterable must bring to a comprehension; K: what stands behind it -/
noncomputable def SrcF (prog : Program) (w : World) (A : Around) (E : Value → Shared → Prop) (h₀ : Heap) (L : Addr) (m : Str → Option Value) (env : Env) (elt target : Expr) (scope : Scope) (cl : List (Str × Addr)) (Fin : Shared → Nat → (Nat → List Value → List (Addr × Obj) → Prop) → Prop) (xv : Value) (s₁ : Shared) : Prop :=
  wpAny (model prog w) A (pyIter xv) (fun it s₂ => ∃ I fp wr n St EnvOk Bd news adr J, it = .ref I ∧ Feed prog w A I fp wr n St target EnvOk Bd ∧ (∀ C, EnvOk (compEnvC scope cl C env)) ∧ n ≤ sizeLine ∧
    St 0 s₂.heap ∧ (∀ b ∈ fp, b < s₂.heap.objs.size) ∧ Fr h₀ L s₂.heap m ∧ News h₀ L s₂.heap news ∧ L ∉ fp ∧ (∀ b ∈ wr, h₀.get? b = none) ∧ (∀ a ∈ adr, a ∉ wr) ∧
    (∀ i ys news, J i ys news → news.map (·.1) = adr) ∧ (∀ i ys news, J i ys news → ys.length = i) ∧ J 0 [] news ∧ StepF prog w A h₀ L m env elt scope cl s₂ fp n Bd J ∧ Fin s₂ n J) E s₁
noncomputable def FinE (h₀ : Heap) (L : Addr) (m : Str → Option Value) (Q : Value → Shared → Prop) (s : Shared) (n : Nat) (J : Nat → List Value → List (Addr × Obj) → Prop) : Prop :=
  ∀ D h tk ys news, J n ys news → Fr h₀ L h m → News h₀ L h ((D, lst ys) :: news) → (∀ p ∈ news, p.1 < D) → Q (.ref D) { s with heap := h, toks := tk }
noncomputable def FinA (h₀ : Heap) (L : Addr) (m : Str → Option Value) (z : Str) (Q : Flow → Shared → Prop) (s : Shared) (n : Nat) (J : Nat → List Value → List (Addr × Obj) → Prop) : Prop :=
  ∀ D h tk ys news, J n ys news → Fr h₀ L h (fun y => if y = z then some (.ref D) else m y) → News h₀ L h ((D, lst ys) :: news) → (∀ p ∈ news, p.1 < D) → Q .next { s with heap := h, toks := tk }
theorem ListComp_F {elt iter target : Expr} {scope : Scope} {cl : List (Str × Addr)} {pos : Pos} {Q : Value → Shared → Prop}
    (hclos : closureFor scope env = pure cl) (hcell : ∀ y ∈ scope.names, y.2 ≠ .cell) (hkind : scope.kind = .function)
    (hnames : ∀ y ∈ scope.names, y.2 = .local → scope.names.lookup y.1 = some .local)
    (h : wpAny (model prog w) A (eval iter env) (SrcF prog w A E h₀ L m env elt target scope cl (FinE h₀ L m Q)) E s)
    (hs : ∀ x, foldedSetIterable iter env x = pure x := by intro _; rfl) :
    wpAny (model prog w) A (eval (.ListComp elt [⟨target, iter, [], 0⟩] scope pos) env) Q E s := by
  rw [eval_ListComp]
  refine wpAny_comprehension_free (use := none) rfl hs hclos hkind hnames (wpAny_mono h (fun xv s₁ h₁ => ?_) fun _ _ e => e)
  refine wpAny_mono h₁ (fun it s₂ h₂ => ?_) fun _ _ e => e
  obtain ⟨I, fp, wr, n, St, EnvOk, Bd, news, adr, J, rfl, W, hE, hsz, hst, hfp, F, N, hLf, hwr, hadr, hJa, hJl, h0, step, fin⟩ := h₂
  refine blockF W hE hsz hcell hkind hst hfp F N hLf hwr adr hadr J hJa hJl h0 step ?_
  intro D C h tk m' ys news' hJ F' N' hn hC₀ hD₀ hCL hDL hCD offD offC
  refine ⟨m', hn, fun h'' hs'' => fin D h'' tk ys news' hJ (F'.change hs'' hCL hC₀) (fun p hp => ?_) offD⟩
  refine ⟨hs''.extBut _ _ ?_ (N' p hp).1, (N' p hp).2⟩
  rcases List.mem_cons.mp hp with rfl | hp
  · exact Ne.symm hCD
  · exact offC p hp
theorem Assign_ListComp_F {elt iter target : Expr} {z : Str} {pz : Pos} {scope : Scope} {cl : List (Str × Addr)} {pos spos : Pos} {Q : Flow → Shared → Prop} (hLe : env.locals = L)
    (hsw : swapsWith (.ListComp elt [⟨target, iter, [], 0⟩] scope pos) (some (.Name z pz)) spos.line env = pure true)
    (hclos : closureFor scope env = pure cl) (hcell : ∀ y ∈ scope.names, y.2 ≠ .cell) (hkind : scope.kind = .function)
    (hnames : ∀ y ∈ scope.names, y.2 = .local → scope.names.lookup y.1 = some .local)
    (hy : env.kindOf z = some .local) (hp : (env.scope.kind == .class || (env.scope.kind == .module && env.locals != env.globals)) = false)
    (h : wpAny (model prog w) A (eval iter env) (SrcF prog w A E h₀ L m env elt target scope cl (FinA h₀ L m z Q)) E s)
    (hs : ∀ x, foldedSetIterable iter env x = pure x := by intro _; rfl) :
    wpAny (model prog w) A (exec (.Assign [.Name z pz] (.ListComp elt [⟨target, iter, [], 0⟩] scope pos) spos) env) Q E s := by
  subst hLe
  rw [exec_Assign_Name_used _ _ _ _ hsw]
  refine wpAny_bind (wpAny_standAt (wpAny_bind ?_))
  show wpAny _ A (do let _ ← comprehension (.ListComp elt [⟨target, iter, [], 0⟩] scope pos) scope env _ (newList []) false (eval iter env) (some (assign (.Name z pz) env))) _ _ s
  refine wpAny_bind (wpAny_mono (wpAny_comprehension_free (use := some (assign (.Name z pz) env)) (Q := fun _ s' => Q .next s') rfl hs hclos hkind hnames
    (wpAny_mono h (fun xv s₁ h₁ => ?_) fun _ _ e => e)) (fun _ s' hq => wpAny_pure (wpAny_pure hq)) fun _ _ e => e)
  refine wpAny_mono h₁ (fun it s₂ h₂ => ?_) fun _ _ e => e
  obtain ⟨I, fp, wr, n, St, EnvOk, Bd, news, adr, J, rfl, W, hE, hsz, hst, hfp, F, N, hLf, hwr, hadr, hJa, hJl, h0, step, fin⟩ := h₂
  refine blockF W hE hsz hcell hkind hst hfp F N hLf hwr adr hadr J hJa hJl h0 step ?_
  intro D C h' tk m' ys news' hJ F' N' hn hC₀ hD₀ hCL hDL hCD offD offC
  show wpAny _ A (assign (.Name z pz) env (.ref D)) _ _ _
  refine wpAny_assign_Name (wpAny_storeName_local hy F'.ns (fun h₂ hn₂ hs₂ => ?_) hp)
  have hL₀ : h₀.get? env.locals = none := Heap.get?_none_of_le F'.above
  have F₂ : Fr h₀ env.locals h₂ (fun y => if y = z then some (.ref D) else m y) := ⟨hn₂, fun b o e => hs₂.extBut b o (fun q => by rw [q, hL₀] at e; cases e) (F'.keep b o e), F'.above⟩
  refine ⟨m', hn.sameBut hs₂ hCL, fun h'' hs'' => fin D h'' _ ys news' hJ (F₂.change hs'' hCL hC₀) (fun p hp => ?_) offD⟩
  have z : h₂.get? p.1 = some p.2 := hs₂.extBut _ _ (N' p hp).2.1 (N' p hp).1
  refine ⟨hs''.extBut _ _ ?_ z, (N' p hp).2⟩
  rcases List.mem_cons.mp hp with rfl | hp
  · exact Ne.symm hCD
  · exact offC p hp
end
end Mine

end
section
theorem Mine.resetG2 : True := by
  w_top off
  trivial
open PySem PySem.W PyProof.Rows PySem.Calls PyProof.Rows.LCg
set_option Elab.async false
set_option maxRecDepth 100000
set_option maxHeartbeats 2000000
namespace Mine
section
variable {prog : Program} {w : World} {A : Around} {E : Value → Shared → Prop} {s : Shared} {h₀ : Heap} {L : Nat} {m : Str → Option Value} {env : Env} {news : List (Addr × Obj)}
noncomputable def IterF (prog : Program) (w : World) (A : Around) (h₀ : Heap) (L : Addr) (m : Str → Option Value) (news : List (Addr × Obj)) (s : Shared) (ex : List Addr) (n : Nat) (target : Expr) (EnvOk : Env → Prop) (Bd : Nat → (Str → Option Value) → (Str → Option Value) → Prop) (it : Value) (s₂ : Shared) : Prop :=
  ∃ I fp wr St, it = .ref I ∧ Feed prog w A I fp wr n St target EnvOk Bd ∧ St 0 s₂.heap ∧ Fr h₀ L s₂.heap m ∧ News h₀ L s₂.heap news ∧ (∀ b ∈ fp, b ∈ ex ∨ s.heap.objs.size ≤ b) ∧ (∀ b ∈ wr, s.heap.objs.size ≤ b) ∧ (∀ b ∈ fp, b < s₂.heap.objs.size) ∧ ∃ hp tk, s₂ = { s with heap := hp, toks := tk }
theorem fresh_at (F : Fr h₀ L s.heap m) : ∀ b, s.heap.objs.size ≤ b → h₀.get? b = none := fun b hb => by
  have h1 : @LT.lt Nat _ L s.heap.objs.size := F.ns.lt
  have h2 : @LE.le Nat _ h₀.objs.size L := F.above
  exact Heap.get?_none_of_le (Nat.le_trans h2 (Nat.le_trans (Nat.le_of_lt h1) hb))
theorem for_It {R : Result → Shared → Prop} {target : Expr} {body : List Stmt} {ex : List Addr} {n : Nat} {EnvOk : Env → Prop} {Bd : Nat → (Str → Option Value) → (Str → Option Value) → Prop} {it : Value} {s₂ : Shared} (F₀ : Fr h₀ env.locals s.heap m) (N₀ : News h₀ env.locals s.heap news)
    (H : IterF prog w A h₀ env.locals m news s ex n target EnvOk Bd it s₂) (hE : EnvOk env) (hex : env.locals ∉ ex)
    (J : Nat → (Str → Option Value) → List (Addr × Obj) → Prop) (hJa : ∀ i m news', J i m news' → news'.map (·.1) = news.map (·.1)) (h0 : J 0 m news)
    (step : ∀ i m₁ mm news₁ own h tk E', i < n → Bd i m₁ mm → J i m₁ news₁ → (∀ p ∈ own, p.1 ∈ ex ∨ ∀ a ∈ news.map (·.1), a < p.1) → Fr h₀ env.locals h mm → News h₀ env.locals h (news₁ ++ own) →
      wpAny (model prog w) A (execs body env) (fun f s' => f = .next ∧ ∃ h' tk' m₂ news₂, s' = { s with heap := h', toks := tk' } ∧ Fr h₀ env.locals h' m₂ ∧ News h₀ env.locals h' (news₂ ++ own) ∧ J (i + 1) m₂ news₂) E' { s with heap := h, toks := tk })
    (hR : ∀ h' tk m' news', Fr h₀ env.locals h' m' → News h₀ env.locals h' news' → J n m' news' → R (.ok .next) { s with heap := h', toks := tk }) :
    codeAny (model prog w) A (.forLoop target it body [] env) R s₂ := by
  obtain ⟨I, fp, wr, St, rfl, W, hst, F, N, hfp, hwr, _, hp, tk, rfl⟩ := H
  have below : ∀ a ∈ news.map (·.1), a < s.heap.objs.size := fun a ha => by
    obtain ⟨p, hp, rfl⟩ := List.mem_map.mp ha
    exact Heap.lt_size (N₀ p hp).1
  refine forF W hE (fun hm => ?_) (fun b hb => fresh_at F₀ b (hwr b hb)) (news.map (·.1)) (fun a ha hb => Nat.lt_irrefl _ (Nat.lt_of_lt_of_le (below a ha) (hwr a hb))) hst F N J hJa h0 ?_ fun h' tk m' news' F N hj => hR h' tk m' news' F N hj
  · rcases hfp _ hm with h | h
    · exact hex h
    · exact Nat.lt_irrefl _ (Nat.lt_of_lt_of_le F₀.ns.lt h)
  · intro i m₁ mm news₁ own h tk E' hi hb hj ho F N
    exact step i m₁ mm news₁ own h tk E' hi hb hj (fun p hp => (hfp _ (ho p hp)).imp id fun h a ha => Nat.lt_of_lt_of_le (below a ha) h) F N
theorem src_It {elt target : Expr} {scope : Scope} {cl : List (Str × Addr)} {Fin : Shared → Nat → (Nat → List Value → List (Addr × Obj) → Prop) → Prop} {ex : List Addr} {n : Nat} {EnvOk : Env → Prop} {Bd : Nat → (Str → Option Value) → (Str → Option Value) → Prop} {it : Value} {s₂ : Shared} (F₀ : Fr h₀ L s.heap m) (N₀ : News h₀ L s.heap news)
    (H : IterF prog w A h₀ L m news s ex n target EnvOk Bd it s₂) (hE : ∀ C, EnvOk (compEnvC scope cl C env)) (hex : L ∉ ex) (hsz : n ≤ sizeLine)
    (J : Nat → List Value → List (Addr × Obj) → Prop) (hJa : ∀ i ys news', J i ys news' → news'.map (·.1) = news.map (·.1)) (hJl : ∀ i ys news', J i ys news' → ys.length = i) (h0 : J 0 [] news)
    (step : ∀ i C oC D m₁ m₂ ys news₁ own h tk (E' : Value → Shared → Prop), i < n → Bd i m₁ m₂ → NsObj oC m₂ → J i ys news₁ → (∀ p ∈ own, p.1 ∈ ex ∨ ∀ a ∈ news.map (·.1), a < p.1) → (∀ p ∈ news₁, p.1 < D ∧ p.1 < C) → (∀ p ∈ own, p.1 < D ∧ p.1 < C) → Fr h₀ L h m → News h₀ L h ((C, oC) :: (D, lst ys) :: (news₁ ++ own)) →
      wpAny (model prog w) A (eval elt (compEnvC scope cl C env)) (EltPost h₀ L m C oC D ys own (J (i + 1)) s) E' { s with heap := h, toks := tk })
    (fin : Fin s n J) (hFin : ∀ hp tk, Fin s n J → Fin { s with heap := hp, toks := tk } n J) :
    ∃ I fp wr n St EnvOk Bd news adr J, it = .ref I ∧ Feed prog w A I fp wr n St target EnvOk Bd ∧ (∀ C, EnvOk (compEnvC scope cl C env)) ∧ n ≤ sizeLine ∧
    St 0 s₂.heap ∧ (∀ b ∈ fp, b < s₂.heap.objs.size) ∧ Fr h₀ L s₂.heap m ∧ News h₀ L s₂.heap news ∧ L ∉ fp ∧ (∀ b ∈ wr, h₀.get? b = none) ∧ (∀ a ∈ adr, a ∉ wr) ∧
    (∀ i ys news, J i ys news → news.map (·.1) = adr) ∧ (∀ i ys news, J i ys news → ys.length = i) ∧ J 0 [] news ∧ StepF prog w A h₀ L m env elt scope cl s₂ fp n Bd J ∧ Fin s₂ n J := by
  obtain ⟨I, fp, wr, St, rfl, W, hst, F, N, hfp, hwr, hlt, hp, tk, rfl⟩ := H
  have below : ∀ a ∈ news.map (·.1), a < s.heap.objs.size := fun a ha => by
    obtain ⟨p, hp, rfl⟩ := List.mem_map.mp ha
    exact Heap.lt_size (N₀ p hp).1
  refine ⟨I, fp, wr, n, St, EnvOk, Bd, news, news.map (·.1), J, rfl, W, hE, hsz, hst, hlt, F, N, fun hm => ?_, fun b hb => fresh_at F₀ b (hwr b hb), fun a ha hb => Nat.lt_irrefl _ (Nat.lt_of_lt_of_le (below a ha) (hwr a hb)), hJa, hJl, h0, ?_, hFin _ _ fin⟩
  · rcases hfp _ hm with h | h
    · exact hex h
    · exact Nat.lt_irrefl _ (Nat.lt_of_lt_of_le F₀.ns.lt h)
  · intro i C oC D m₁ m₂ ys news own h tk E' hi hb hn hj ho hnl hfl F N
    exact step i C oC D m₁ m₂ ys news own h tk E' hi hb hn hj (fun p hp => (hfp _ (ho p hp)).imp id fun h a ha => Nat.lt_of_lt_of_le (below a ha) h) hnl (fun p hp => hfl _ (ho p hp)) F N
theorem finE_any {Q : Value → Shared → Prop} {n : Nat} {J : Nat → List Value → List (Addr × Obj) → Prop} (hp : Heap) (tk : Nat) (h : FinE h₀ L m Q s n J) : FinE h₀ L m Q { s with heap := hp, toks := tk } n J := h
theorem finA_any {z : Str} {Q : Flow → Shared → Prop} {n : Nat} {J : Nat → List Value → List (Addr × Obj) → Prop} (hp : Heap) (tk : Nat) (h : FinA h₀ L m z Q s n J) : FinA h₀ L m z Q { s with heap := hp, toks := tk } n J := h
theorem it_list {ax : Nat} {vs : List Value} {Q : Value → Shared → Prop} (hh : A.handled = none) (hl : s.heap.IsList ax vs.toArray) (F : Fr h₀ L s.heap m) (N : News h₀ L s.heap news)
    (h : ∀ it s₂, (∀ x px, IterF prog w A h₀ L m news s [ax] vs.length (.Name x px) (Ok1 x) (Bd1 x fun i v => vs[i]? = some v) it s₂) → Q it s₂) :
    wpAny (model prog w) A (pyIter (.ref ax)) Q E s := by
  have hax : @LT.lt Nat _ ax s.heap.objs.size := by obtain ⟨_, e, _⟩ := hl; exact Heap.lt_size e
  refine wpAny_pyIter_list hl ?_
  have W := Walks.list (prog := prog) (w := w) hh s.heap.objs.size ax (Nat.ne_of_lt hax) vs.toArray
  have W' : Walks prog w A s.heap.objs.size [s.heap.objs.size, ax] [s.heap.objs.size] vs.length (fun i v => vs[i]? = some v) (fun i h => h.IsListIter s.heap.objs.size ax i ∧ h.IsList ax vs.toArray) := by simpa using W
  refine h _ _ fun x px => ⟨_, _, _, _, rfl, Feed.name W', ⟨⟨_, Heap.get?_push_size _ rfl, rfl, rfl⟩, hl.at fun o e => Heap.get?_push_of_some _ e⟩, ?_, ?_, ?_, ?_, ?_, _, _, rfl⟩
  · show Fr h₀ L (s.heap.push _) m; exact F.push _
  · exact fun p hp => ⟨Heap.get?_push_of_some _ (N p hp).1, (N p hp).2⟩
  · intro b hb
    rcases List.mem_cons.mp hb with rfl | hb
    · exact .inr (Nat.le_refl _)
    · exact .inl hb
  · intro b hb
    rw [List.mem_singleton.mp hb]; exact Nat.le_refl _
  · intro b hb
    show @LT.lt Nat _ b (s.heap.push _).objs.size
    rw [Heap.size_push]
    rcases List.mem_cons.mp hb with rfl | hb
    · exact Nat.lt_succ_self _
    · rw [List.mem_singleton.mp hb]; exact Nat.lt_succ_of_lt hax
theorem it_range {r : Addr} {a b c : Int} {t u v : Tok} {n : Nat} {Q : Value → Shared → Prop} (hr : IsRange s.heap r a b c t u v) (hh : A.handled = none) (hsmall : Builtin.Range.small a b c = true) (hn : Builtin.Range.rangeSize a b c = (n : Int)) (F : Fr h₀ L s.heap m) (N : News h₀ L s.heap news)
    (h : ∀ it s₂, (∀ x px, IterF prog w A h₀ L m news s [] n (.Name x px) (Ok1 x) (Bd1 x fun i v => ∃ t, v = .int (a + i * c) t) it s₂) → Q it s₂) :
    wpAny (model prog w) A (pyIter (.ref r)) Q E s := by
  refine wpAny_pyIter_range hr hsmall ?_
  have W := Walks.range (prog := prog) (w := w) (A := A) hh s.heap.objs.size a c n
  refine h _ _ fun x px => ⟨_, _, _, _, rfl, Feed.name W, (by show IsRangeIter _ _ _ _ _; rw [hn]; simpa using Heap.get?_push_size _ rfl), ?_, ?_, ?_, ?_, ?_, _, _, rfl⟩
  · show Fr h₀ L (s.heap.push _) m; exact F.push _
  · exact fun p hp => ⟨Heap.get?_push_of_some _ (N p hp).1, (N p hp).2⟩
  · intro b hb
    rw [List.mem_singleton.mp hb]; exact .inr (Nat.le_refl _)
  · intro b hb
    rw [List.mem_singleton.mp hb]; exact Nat.le_refl _
  · intro b hb
    show @LT.lt Nat _ b (s.heap.push _).objs.size
    rw [Heap.size_push, List.mem_singleton.mp hb]
    exact Nat.lt_succ_self _
theorem it_bytes {bs : Array UInt8} {t : Tok} {Q : Value → Shared → Prop} (hh : A.handled = none) (F : Fr h₀ L s.heap m) (N : News h₀ L s.heap news)
    (h : ∀ it s₂, (∀ x px, IterF prog w A h₀ L m news s [] bs.size (.Name x px) (Ok1 x) (Bd1 x fun i v => ∃ c u, bs[i]? = some c ∧ v = .int (c.toNat : Int) u) it s₂) → Q it s₂) :
    wpAny (model prog w) A (pyIter (.bytes bs t)) Q E s := by
  refine KBw.pyIter_bytes ?_
  have W := KBw.walks (prog := prog) (w := w) (A := A) hh s.heap.objs.size bs t
  refine h _ _ fun x px => ⟨_, _, _, _, rfl, Feed.name W, ⟨_, Heap.get?_push_size _ rfl, rfl, rfl⟩, ?_, ?_, ?_, ?_, ?_, _, _, rfl⟩
  · show Fr h₀ L (s.heap.push _) m; exact F.push _
  · exact fun p hp => ⟨Heap.get?_push_of_some _ (N p hp).1, (N p hp).2⟩
  · intro b hb
    rw [List.mem_singleton.mp hb]; exact .inr (Nat.le_refl _)
  · intro b hb
    rw [List.mem_singleton.mp hb]; exact Nat.le_refl _
  · intro b hb
    show @LT.lt Nat _ b (s.heap.push _).objs.size
    rw [Heap.size_push, List.mem_singleton.mp hb]
    exact Nat.lt_succ_self _
theorem it_str {y : Str} {t : Tok} {Q : Value → Shared → Prop} (hh : A.handled = none) (F : Fr h₀ L s.heap m) (N : News h₀ L s.heap news)
    (h : ∀ it s₂, (∀ x px, IterF prog w A h₀ L m news s [] y.cps.size (.Name x px) (Ok1 x) (Bd1 x (SignAt y)) it s₂) → Q it s₂) :
    wpAny (model prog w) A (pyIter (.str y t)) Q E s := by
  cases ha : y.cps.all (· < 128)
  · refine wpAny_pyIter_wide ha ?_
    refine h _ _ fun x px => ⟨_, _, _, _, rfl, Feed.name (Walks.strWide hh _ y t), ⟨_, Heap.get?_push_size _ rfl, rfl, rfl⟩, ?_, ?_, ?_, ?_, ?_, _, _, rfl⟩
    · show Fr h₀ L (s.heap.push _) m; exact F.push _
    · exact fun p hp => ⟨Heap.get?_push_of_some _ (N p hp).1, (N p hp).2⟩
    · intro b hb
      rw [List.mem_singleton.mp hb]; exact .inr (Nat.le_refl _)
    · intro b hb
      rw [List.mem_singleton.mp hb]; exact Nat.le_refl _
    · intro b hb
      show @LT.lt Nat _ b (s.heap.push _).objs.size
      rw [Heap.size_push, List.mem_singleton.mp hb]
      exact Nat.lt_succ_self _
  · refine wpAny_pyIter_ascii ha ?_
    refine h _ _ fun x px => ⟨_, _, _, _, rfl, Feed.name (Walks.strAscii hh _ y t), ⟨_, Heap.get?_push_size _ rfl, rfl, rfl⟩, ?_, ?_, ?_, ?_, ?_, _, _, rfl⟩
    · show Fr h₀ L (s.heap.push _) m; exact F.push _
    · exact fun p hp => ⟨Heap.get?_push_of_some _ (N p hp).1, (N p hp).2⟩
    · intro b hb
      rw [List.mem_singleton.mp hb]; exact .inr (Nat.le_refl _)
    · intro b hb
      rw [List.mem_singleton.mp hb]; exact Nat.le_refl _
    · intro b hb
      show @LT.lt Nat _ b (s.heap.push _).objs.size
      rw [Heap.size_push, List.mem_singleton.mp hb]
      exact Nat.lt_succ_self _
theorem it_enum {l : Nat} {items : Array Value} {Q : Value → Shared → Prop} (hh : A.handled = none) (hl : s.heap.IsList l items) (F : Fr h₀ L s.heap m) (N : News h₀ L s.heap news)
    (h : ∀ it s₂, (∀ a b pa pb kk tp, IterF prog w A h₀ L m news s [l] items.size (.Tuple [.Name a pa, .Name b pb] kk tp) (Ok2 a b) (Bd2 a b fun i x y => (∃ t, x = .int (i : Int) t) ∧ items[i]? = some y) it s₂) → Q it s₂) :
    wpAny (model prog w) A (call (.type "enumerate") [.ref l]) (fun xv s₁ => wpAny (model prog w) A (pyIter xv) Q E s₁) E s := by
  have hlt : @LT.lt Nat _ l s.heap.objs.size := by obtain ⟨_, e, _⟩ := hl; exact Heap.lt_size e
  refine call_enumerate_list hl fun h' he hit hsz' hk => ?_
  have W := (WalksT.enumerate (prog := prog) (w := w) (A := A) hh (s.heap.objs.size + 1) s.heap.objs.size l (Nat.succ_ne_self _) (Nat.ne_of_lt (Nat.lt_succ_of_lt hlt)) (Nat.ne_of_lt hlt) items).toU
  have hst : (∃ old, IsEnum h' (s.heap.objs.size + 1) s.heap.objs.size ((0 : Nat) : Int) old) ∧ h'.IsListIter s.heap.objs.size l 0 ∧ h'.IsList l items := ⟨⟨_, he⟩, hit, hl.at fun o e => hk l o e⟩
  refine W.self 0 _ _ _ hst ?_
  refine h _ _ fun a b pa pb kk tp => ⟨_, _, _, _, rfl, Feed.pair W (P := fun i x y => (∃ t, x = .int (i : Int) t) ∧ items[i]? = some y) ?_ hh, hst, ⟨F.ns.keeps hk, fun b o e => hk b o (F.keep b o e), F.above⟩, fun p hp => ⟨hk _ _ (N p hp).1, (N p hp).2⟩, ?_, ?_, ?_, _, _, rfl⟩
  · rintro i vals ⟨t, x, hx, rfl⟩
    exact ⟨_, _, rfl, ⟨t, rfl⟩, hx⟩
  · intro b hb
    simp only [List.mem_cons, List.not_mem_nil, or_false] at hb
    rcases hb with e | e | e
    · exact .inr (e ▸ Nat.le_succ _)
    · exact .inr (e ▸ Nat.le_refl _)
    · exact .inl (List.mem_singleton.mpr e)
  · intro b hb
    simp only [List.mem_cons, List.not_mem_nil, or_false] at hb
    rcases hb with e | e
    · exact (e ▸ Nat.le_succ _)
    · exact (e ▸ Nat.le_refl _)
  · intro b hb
    have hs : @Eq Nat h'.objs.size _ := hsz'
    show @LT.lt Nat _ b h'.objs.size
    rw [hs]
    simp only [List.mem_cons, List.not_mem_nil, or_false] at hb
    rcases hb with e | e | e <;> (have e' : @Eq Nat b _ := e; omega)
theorem it_zip {l1 l2 : Nat} {xs ys : Array Value} {Q : Value → Shared → Prop} (hh : A.handled = none) (hl1 : s.heap.IsList l1 xs) (hl2 : s.heap.IsList l2 ys) (F : Fr h₀ L s.heap m) (N : News h₀ L s.heap news)
    (h : ∀ it s₂, (∀ a b pa pb kk tp, IterF prog w A h₀ L m news s [l1, l2] (min xs.size ys.size) (.Tuple [.Name a pa, .Name b pb] kk tp) (Ok2 a b) (Bd2 a b fun i x y => xs[i]? = some x ∧ ys[i]? = some y) it s₂) → Q it s₂) :
    wpAny (model prog w) A (call (.type "zip") [.ref l1, .ref l2]) (fun xv s₁ => wpAny (model prog w) A (pyIter xv) Q E s₁) E s := by
  have hlt1 : @LT.lt Nat _ l1 s.heap.objs.size := by obtain ⟨_, e, _⟩ := hl1; exact Heap.lt_size e
  have hlt2 : @LT.lt Nat _ l2 s.heap.objs.size := by obtain ⟨_, e, _⟩ := hl2; exact Heap.lt_size e
  refine call_zip_2 hl1 hl2 fun h' hz hTI hTO hi1 hi2 hsz' hk => ?_
  have W := (WalksT.zip2 (prog := prog) (w := w) (A := A) hh (s.heap.objs.size + 4) (s.heap.objs.size + 2) (s.heap.objs.size + 3) s.heap.objs.size (s.heap.objs.size + 1) l1 l2 (zipApart_new hlt1 hlt2) xs ys).toU
  have hst : IsZip h' (s.heap.objs.size + 4) (s.heap.objs.size + 2) (s.heap.objs.size + 3) .none ∧ IsPair h' (s.heap.objs.size + 2) (.ref s.heap.objs.size) (.ref (s.heap.objs.size + 1)) ∧ (∃ a b, IsPair h' (s.heap.objs.size + 3) a b) ∧ h'.IsListIter s.heap.objs.size l1 0 ∧ h'.IsListIter (s.heap.objs.size + 1) l2 0 ∧ h'.IsList l1 xs ∧ h'.IsList l2 ys :=
    ⟨hz, hTI, ⟨_, _, hTO⟩, hi1, hi2, hl1.at fun o e => hk l1 o e, hl2.at fun o e => hk l2 o e⟩
  refine W.self 0 _ _ _ hst ?_
  refine h _ _ fun a b pa pb kk tp => ⟨_, _, _, _, rfl, Feed.pair W (P := fun i x y => xs[i]? = some x ∧ ys[i]? = some y) ?_ hh, hst, ⟨F.ns.keeps hk, fun b o e => hk b o (F.keep b o e), F.above⟩, fun p hp => ⟨hk _ _ (N p hp).1, (N p hp).2⟩, ?_, ?_, ?_, _, _, rfl⟩
  · rintro i vals ⟨x, y, hx, hy, rfl⟩
    exact ⟨_, _, rfl, hx, hy⟩
  · intro b hb
    simp only [List.mem_cons, List.not_mem_nil, or_false] at hb
    have lo : b = l1 ∨ b = l2 ∨ @LE.le Nat _ s.heap.objs.size b := by
      rcases hb with e | e | e | e | e | e | e <;> (have e' : @Eq Nat b _ := e; first | (right; right; omega) | (right; left; exact e) | (left; exact e))
    rcases lo with e | e | e
    · exact .inl (e ▸ List.mem_cons_self ..)
    · exact .inl (e ▸ List.mem_cons_of_mem _ (List.mem_cons_self ..))
    · exact .inr e
  · intro b hb
    simp only [List.mem_cons, List.not_mem_nil, or_false] at hb
    rcases hb with e | e | e | e <;> (have e' : @Eq Nat b _ := e; show @LE.le Nat _ _ _; omega)
  · intro b hb
    have hs : @Eq Nat h'.objs.size _ := hsz'
    show @LT.lt Nat _ b h'.objs.size
    rw [hs]
    simp only [List.mem_cons, List.not_mem_nil, or_false] at hb
    rcases hb with e | e | e | e | e | e | e <;> (have e' : @Eq Nat b _ := e; omega)
end
end Mine

end
section
theorem Mine.resetT1 : True := by
  w_top off
  trivial
local macro_rules | `(tactic| walk_at "none") => `(tactic| skip)
open PySem PySem.W PyProof.Rows PySem.Calls
set_option Elab.async false
set_option maxRecDepth 100000
set_option maxHeartbeats 2000000
namespace Mine
theorem fillT1 : (PySem.Challenge.rw_wf0014_01, hd.heap_39) = (PySem.Challenge.rw_wf0014_01, hd.heap_39) := by
  k_fill
  rfl
noncomputable def toldS : Stmt := topS 18
noncomputable abbrev toldE (L : Addr) : Env := envOfC (Str.ofString "_law_told") (fnS toldS) L 148 (.ref 147)
noncomputable abbrev toldM (rv pv nb tn kp pr on tw : Option Value) : Str → Option Value := fun y => if y = Str.ofString "number" then nb else if y = Str.ofString "two" then tw else if y = Str.ofString "one" then on else if y = Str.ofString "pair" then pr else if y = Str.ofString "kept" then kp else if y = Str.ofString "turn" then tn else if y = Str.ofString "row" then rv else if y = Str.ofString "places" then pv else none
noncomputable def pushB : List Stmt := fnB (nth (fnB toldS) 0)
noncomputable def turnB : List Stmt := fnB (nth (fnB toldS) 1)
noncomputable def pairB : List Stmt := fnB (nth turnB 1)
noncomputable def push2B : List Stmt := fnB (nth turnB 2)
section
variable {w : World} {mean : ExcName → Option Value} {mg mb : Str → Option Value} {A A₀ : Around} {env : Env} {outer : List Env} {base h₀ : Heap} {L : Addr} {m : Str → Option Value} {s : Shared} {Q : Flow → Shared → Prop} {E : Value → Shared → Prop}
  {line ld pb st cln kpa : Nat} {oc : Obj} {t1 t2 t3 t4 u1 u2 : Tok} {n : Int} {vs : List Value} {k j jk : Nat} {x : Value} {news news' rest : List (Addr × Obj)} {hnd : Option Value} {dp un : Nat} {gd : Option (List Code)}
  {rv pv nb tn kp pr on tw : Option Value}
local macro_rules | `(tactic| walk_at "call ref") => `(tactic| (k_here; (try dsimp only [List.cons_append, List.nil_append]); (with_reducible show wpAny _ _ (call (Value.ref 56) [Value.ref _, _]) _ _ _); k_dflt (refine' push_C ?B ?F ?X ?N ?T ?hA ?hf ?hke ?hr ?m1 ?m2 ?U ?hz ?_; (case B => k_asm); (case F => k_asm); (case X => k_asm); (case N => k_asm); (case T => k_asm); (case hA => exact rfl); (case hf => exact rfl); (case hke => exact rfl); (case hr => assumption); (case m1 => k_mem); (case m2 => k_mem); (case U => k_upd); (case hz => assumption)); intro h' tk' F' N'; (try k_sweep)))
theorem push_B {v : Value} (B : Below A₀ base outer h₀) (X : (hd.heap_39 w.params).In h₀) (T : Top TP TL mean mg mb h₀) (hroom : dp < recursionLimit)
    (hoc : oc.data = .cell (some (.ref line))) (hC : cln = L + 1)
    (F : Fr h₀ L s.heap (toldM rv pv (some v) tn kp pr on tw))
    (N : News h₀ L s.heap ((line, instObj 59 ld) :: (ld, dictOf (lineD w t1 t2 t3 t4 u1 u2 n st pb) k) :: (pb, listOf vs.toArray j) :: (cln, oc) :: rest))
    (o2 : pb ≠ line) (o3 : pb ≠ ld) (o4 : pb ≠ cln) (hr : ∀ p ∈ rest, p.1 ≠ pb) (hvs : vs.length < 1000)
    (hret : ∀ h' tk', Fr h₀ L h' (toldM rv pv (some v) tn kp pr on tw) → News h₀ L h' ((line, instObj 59 ld) :: (ld, dictOf (lineD w t1 t2 t3 t4 u1 u2 n st pb) k) :: (pb, listOf (vs ++ [v]).toArray (j + 1)) :: (cln, oc) :: rest) → Q .next { s with heap := h', toks := tk' }) :
    wpAny (model PR w) (AA hnd dp (toldE L) outer gd un) (execs pushB (toldE L)) Q E s := by
  have eS : fnS toldS = fnS toldS := rfl
  conv at eS => { rhs; whnf }
  have eB : pushB = pushB := rfl
  conv at eB => { rhs; whnf }
  rw [eB]
  dsimp only [toldE]
  rw [eS]
  subst hC
  k_steps
  exact hret _ _ (by assumption) (by assumption)
end
end Mine

end
section
theorem Mine.resetT2 : True := by
  w_top off
  trivial
open PySem PySem.W PyProof.Rows PySem.Calls
set_option Elab.async false
set_option maxRecDepth 100000
set_option maxHeartbeats 2000000
namespace Mine
theorem fillT2 : (PySem.Challenge.rw_wf0014_01, hd.heap_39) = (PySem.Challenge.rw_wf0014_01, hd.heap_39) := by
  k_fill
  rfl
section
variable {w : World} {mean : ExcName → Option Value} {mg mb : Str → Option Value} {A A₀ : Around} {env : Env} {outer : List Env} {base h₀ : Heap} {L : Addr} {m : Str → Option Value} {s : Shared} {Q : Flow → Shared → Prop} {E : Value → Shared → Prop}
  {line ld pb st cln kpa : Nat} {oc : Obj} {t1 t2 t3 t4 u1 u2 : Tok} {n : Int} {vs : List Value} {k j jk : Nat} {x : Value} {news news' rest : List (Addr × Obj)} {hnd : Option Value} {dp un : Nat} {gd : Option (List Code)}
  {rv pv nb tn kp pr on tw : Option Value}
local macro_rules | `(tactic| size_fits) => `(tactic| exact szA (by assumption))
local macro_rules | `(tactic| walk_at "call builtin:list.append") => `(tactic| (k_here; (try dsimp only [List.cons_append, List.nil_append]); (with_reducible show wpAny _ _ (call (Value.builtin _) [Value.ref _, _]) _ _ _); k_dflt (refine' append_K ?k1 ?k2 ?k3 ?_ ?z; (case k1 => k_asm); (case k2 => k_asm); (case k3 => k_upd); (case z => size_fits); k_whole); intro h' F' N'; (try k_sweep)))
local macro_rules | `(tactic| walk_at "Mpush") => `(tactic| ((with_reducible show wpAny _ _ (call (Value.ref 56) [Value.ref _, _]) _ _ _); k_dflt (refine' push_C ?B ?F ?X ?N ?T ?hA ?hf ?hke ?hr ?m1 ?m2 ?U ?hz ?_; (case B => k_asm); (case F => k_asm); (case X => k_asm); (case N => k_asm); (case T => k_asm); (case hA => exact rfl); (case hf => exact rfl); (case hke => exact rfl); (case hr => assumption); (case m1 => k_mem); (case m2 => k_mem); (case U => k_upd); (case hz => assumption)); intro h' tk' F' N'; (try k_sweep)))
local macro_rules | `(tactic| walk_at "Mget") => `(tactic| ((with_reducible show wpAny _ _ (call (Value.ref 49) [Value.ref _]) _ _ _); k_dflt (refine' get_C ?B ?F ?X ?N ?T ?hA ?hf ?hke ?hr ?m1 ?m2 ?U ?hz ?_; (case B => k_asm); (case F => k_asm); (case X => k_asm); (case N => k_asm); (case T => k_asm); (case hA => exact rfl); (case hf => exact rfl); (case hke => exact rfl); (case hr => assumption); (case m1 => k_mem); (case m2 => k_mem); (case U => k_upd); (case hz => assumption)); intro h' tk' F' N'; (try dsimp only [List.nil_append, List.cons_append] at N'); (try k_sweep)))
local macro_rules | `(tactic| walk_at "Madd") => `(tactic| ((with_reducible show wpAny _ _ (call (Value.ref 70) [Value.int _ _, Value.int _ _]) _ _ _); k_dflt (refine' add_C ?B ?F ?X ?N ?T ?hA ?hf ?hke ?hr ?_; (case B => k_asm); (case F => k_asm); (case X => k_asm); (case N => k_asm); (case T => k_asm); (case hA => exact rfl); (case hf => exact rfl); (case hke => exact rfl); (case hr => assumption)); intro h' tk' t' F' N'; (try k_sweep)))
local macro_rules | `(tactic| walk_at "Msub") => `(tactic| ((with_reducible show wpAny _ _ (call (Value.ref 112) [Value.int _ _, Value.int _ _]) _ _ _); k_dflt (refine' sub_C ?B ?F ?X ?N ?T ?hA ?hf ?hke ?hr ?_; (case B => k_asm); (case F => k_asm); (case X => k_asm); (case N => k_asm); (case T => k_asm); (case hA => exact rfl); (case hf => exact rfl); (case hke => exact rfl); (case hr => assumption)); intro h' tk' t' F' N'; (try k_sweep)))
local macro_rules | `(tactic| walk_at "call ref") => `(tactic| (k_here; (try dsimp only [List.cons_append, List.nil_append]); first | walk_at "Mpush" | walk_at "Mget" | walk_at "Madd" | walk_at "Msub"))
theorem push_2B {v : Value} (B : Below A₀ base outer h₀) (X : (hd.heap_39 w.params).In h₀) (T : Top TP TL mean mg mb h₀) (hroom : dp < recursionLimit)
    (hoc : oc.data = .cell (some (.ref line))) (hC : cln = L + 1)
    (F : Fr h₀ L s.heap (toldM rv pv (some v) tn kp pr on tw))
    (N : News h₀ L s.heap ((line, instObj 59 ld) :: (ld, dictOf (lineD w t1 t2 t3 t4 u1 u2 n st pb) k) :: (pb, listOf vs.toArray j) :: (cln, oc) :: rest))
    (o2 : pb ≠ line) (o3 : pb ≠ ld) (o4 : pb ≠ cln) (hr : ∀ p ∈ rest, p.1 ≠ pb) (hvs : vs.length < 1000)
    (hret : ∀ h' tk', Fr h₀ L h' (toldM rv pv (some v) tn kp pr on tw) → News h₀ L h' ((line, instObj 59 ld) :: (ld, dictOf (lineD w t1 t2 t3 t4 u1 u2 n st pb) k) :: (pb, listOf (vs ++ [v]).toArray (j + 1)) :: (cln, oc) :: rest) → Q .next { s with heap := h', toks := tk' }) :
    wpAny (model PR w) (AA hnd dp (toldE L) outer gd un) (execs push2B (toldE L)) Q E s := by
  have eS : fnS toldS = fnS toldS := rfl
  conv at eS => { rhs; whnf }
  have eB : push2B = push2B := rfl
  conv at eB => { rhs; whnf }
  rw [eB]
  dsimp only [toldE]
  rw [eS]
  subst hC
  k_steps
  exact hret _ _ (by assumption) (by assumption)
theorem toldM_12 {u v : Value} : (fun y => if y = Str.ofString "two" then some v else if y = Str.ofString "one" then some u else toldM rv pv nb tn kp pr on tw y) = toldM rv pv nb tn kp pr (some u) (some v) := by
  funext y
  by_cases h : y = Str.ofString "two"
  · subst h; rfl
  · by_cases h' : y = Str.ofString "one"
    · subst h'; rfl
    · simp only [toldM, if_neg h, if_neg h']
theorem pair_B {a b : Int} {ta tb : Tok} {ks : List Value} (B : Below A₀ base outer h₀) (X : (hd.heap_39 w.params).In h₀) (T : Top TP TL mean mg mb h₀) (hroom : dp < recursionLimit)
    (hoc : oc.data = .cell (some (.ref line))) (hC : cln = L + 1) (ekp : kp = some (.ref kpa))
    (F : Fr h₀ L s.heap (toldM rv pv nb tn kp pr on tw))
    (N : News h₀ L s.heap ((line, instObj 59 ld) :: (ld, dictOf (lineD w t1 t2 t3 t4 u1 u2 n st pb) k) :: (pb, listOf (.int a ta :: .int b tb :: vs).toArray j) :: (kpa, listOf ks.toArray jk) :: (cln, oc) :: rest))
    (o2 : pb ≠ line) (o3 : pb ≠ ld) (o4 : pb ≠ cln) (o5 : pb ≠ kpa) (hr : ∀ p ∈ rest, p.1 ≠ pb) (hvs : vs.length + 2 < 1000)
    (q2 : kpa ≠ line) (q3 : kpa ≠ ld) (q4 : kpa ≠ cln) (hr2 : ∀ p ∈ rest, p.1 ≠ kpa) (hks : ks.length < 1000)
    (hret : ∀ (h' : Heap) (tk' : Nat) (on' tw' : Option Value) (tc td : Tok) (jk' j' : Nat), Fr h₀ L h' (toldM rv pv nb tn kp pr on' tw') → News h₀ L h' ((line, instObj 59 ld) :: (ld, dictOf (lineD w t1 t2 t3 t4 u1 u2 n st pb) k) :: (pb, listOf (vs ++ [Value.int (a + b) tc]).toArray j') :: (kpa, listOf (ks ++ [Value.int (a - b) td]).toArray jk') :: (cln, oc) :: rest) → Q .next { s with heap := h', toks := tk' }) :
    wpAny (model PR w) (AA hnd dp (toldE L) outer gd un) (execs pairB (toldE L)) Q E s := by
  have eS : fnS toldS = fnS toldS := rfl
  conv at eS => { rhs; whnf }
  have eB : pairB = pairB := rfl
  conv at eB => { rhs; whnf }
  rw [eB]
  dsimp only [toldE]
  rw [eS]
  subst hC
  subst ekp
  have z2 : (Value.int a ta :: Value.int b tb :: vs).length < 1000 := by simp only [List.length_cons]; omega
  have z1 : (Value.int b tb :: vs).length < 1000 := by simp only [List.length_cons]; omega
  have z0 : vs.length < 1000 := by omega
  k_steps
  (with_reducible rename Fr _ _ _ _ => F9)
  (with_reducible rename News _ _ _ _ => N9)
  rw [toldM_12] at F9
  rw [List.push_toArray] at N9
  exact hret _ _ _ _ _ _ _ _ F9 N9
end
end Mine

end
section
theorem Mine.resetT3 : True := by
  w_top off
  trivial
open PySem PySem.W PyProof.Rows PySem.Calls
set_option Elab.async false
set_option maxRecDepth 100000
set_option maxHeartbeats 2000000
set_option linter.unusedVariables false
namespace Mine
theorem fillT3 : (PySem.Challenge.rw_wf0014_01, hd.heap_39) = (PySem.Challenge.rw_wf0014_01, hd.heap_39) := by
  k_fill
  rfl
noncomputable def Stop (P : Prop) : Prop := P
theorem Stop.go {P : Prop} (h : Stop P) : P := h
theorem Stop.mk {P : Prop} (h : P) : Stop P := h
theorem ints_snoc {vs : List Value} {ns : List Int} {n : Int} {t : Tok} (h : IntsAre vs ns) : IntsAre (vs ++ [Value.int n t]) (ns ++ [n]) := IntsAre.append h (IntsAre.cons _ _ IntsAre.nil)
section
variable {w : World} {mean : ExcName → Option Value} {mg mb : Str → Option Value} {A₀ : Around} {outer : List Env} {base h₀ : Heap} {L : Nat} {m : Str → Option Value} {s : Shared}
  {line ld pb st cln kpa : Nat} {oc : Obj} {t1 t2 t3 t4 u1 u2 : Tok} {n : Int} {vs : List Value} {k j jk : Nat} {rest : List (Addr × Obj)} {dp un : Nat} {gd : Option (List Code)}
  {rv pv nb tn kp pr on tw : Option Value}
noncomputable abbrev lgd (w : World) (t1 t2 t3 t4 u1 u2 : Tok) (n : Int) (line ld pb st cln : Addr) (oc : Obj) (k : Nat) (vs : List Value) (j : Nat) (rest : List (Addr × Obj)) : List (Addr × Obj) :=
  (line, instObj 59 ld) :: (ld, dictOf (lineD w t1 t2 t3 t4 u1 u2 n st pb) k) :: (pb, listOf vs.toArray j) :: (cln, oc) :: rest
noncomputable def PushBody (w : World) (t1 t2 t3 t4 u1 u2 : Tok) (n : Int) (line ld pb st cln : Nat) (oc : Obj) (k : Nat) (h₀ : Heap) (L : Nat) (A : Around) (body : List Stmt) : Prop :=
  ∀ (s : Shared) (E : Value → Shared → Prop) (v : Value) (vs : List Value) (j : Nat) (rest : List (Addr × Obj)) (rv pv tn kp pr on tw : Option Value), Fr h₀ L s.heap (toldM rv pv (some v) tn kp pr on tw) →
    News h₀ L s.heap (lgd w t1 t2 t3 t4 u1 u2 n line ld pb st cln oc k vs j rest) → (∀ p ∈ rest, p.1 ≠ pb) → vs.length < 1000 →
    wpAny (model PR w) A (execs body (toldE L)) (fun f s' => f = .next ∧ ∃ h' tk', s' = { s with heap := h', toks := tk' } ∧ Fr h₀ L h' (toldM rv pv (some v) tn kp pr on tw) ∧
      News h₀ L h' (lgd w t1 t2 t3 t4 u1 u2 n line ld pb st cln oc k (vs ++ [v]) (j + 1) rest)) E s
theorem push_body {hnd : Option Value} (B : Below A₀ base outer h₀) (X : (hd.heap_39 w.params).In h₀) (T : Top TP TL mean mg mb h₀) (hroom : dp < recursionLimit)
    (hoc : oc.data = .cell (some (.ref line))) (hC : cln = L + 1) (o2 : pb ≠ line) (o3 : pb ≠ ld) (o4 : pb ≠ cln) :
    PushBody w t1 t2 t3 t4 u1 u2 n line ld pb st cln oc k h₀ L (AA hnd dp (toldE L) outer gd un) pushB :=
  fun s E v vs j rest rv pv tn kp pr on tw F N hr hv => push_B B X T hroom hoc hC F N o2 o3 o4 hr hv fun h' tk' F' N' => ⟨rfl, h', tk', rfl, F', N'⟩
theorem push_body2 {hnd : Option Value} (B : Below A₀ base outer h₀) (X : (hd.heap_39 w.params).In h₀) (T : Top TP TL mean mg mb h₀) (hroom : dp < recursionLimit)
    (hoc : oc.data = .cell (some (.ref line))) (hC : cln = L + 1) (o2 : pb ≠ line) (o3 : pb ≠ ld) (o4 : pb ≠ cln) :
    PushBody w t1 t2 t3 t4 u1 u2 n line ld pb st cln oc k h₀ L (AA hnd dp (toldE L) outer gd un) push2B :=
  fun s E v vs j rest rv pv tn kp pr on tw F N hr hv => push_2B B X T hroom hoc hC F N o2 o3 o4 hr hv fun h' tk' F' N' => ⟨rfl, h', tk', rfl, F', N'⟩
theorem toldM_nb {v : Value} : up1 (Str.ofString "number") v (toldM rv pv nb tn kp pr on tw) = toldM rv pv (some v) tn kp pr on tw := by
  funext y
  by_cases h : y = Str.ofString "number"
  · subst h; rfl
  · simp only [up1, toldM, if_neg h]
/-- the loop that pushes: any source of ints -/
theorem push_loop {A : Around} {R : Result → Shared → Prop} {body : List Stmt} {px : Pos} {P : Nat → Value → Prop} {ex : List Addr} {it : Value} {s₂ : Shared} {ns q : List Int}
    (hb : PushBody w t1 t2 t3 t4 u1 u2 n line ld pb st cln oc k h₀ L A body)
    (F : Fr h₀ L s.heap (toldM rv pv nb tn kp pr on tw)) (N : News h₀ L s.heap (lgd w t1 t2 t3 t4 u1 u2 n line ld pb st cln oc k vs j rest)) (hr : ∀ p ∈ rest, p.1 ≠ pb)
    (H : IterF PR w A h₀ L (toldM rv pv nb tn kp pr on tw) (lgd w t1 t2 t3 t4 u1 u2 n line ld pb st cln oc k vs j rest) s ex ns.length (.Name (Str.ofString "number") px) (Ok1 (Str.ofString "number")) (Bd1 (Str.ofString "number") P) it s₂)
    (hP : ∀ i v, P i v → ∃ a t, ns[i]? = some a ∧ v = .int a t) (hex : L ∉ ex) (hpx : pb ∉ ex) (hq : IntsAre vs q) (hlen : q.length + ns.length < 1000)
    (hR : ∀ h' tk nb' vs' j', IntsAre vs' (q ++ ns) → Fr h₀ L h' (toldM rv pv nb' tn kp pr on tw) → News h₀ L h' (lgd w t1 t2 t3 t4 u1 u2 n line ld pb st cln oc k vs' j' rest) → R (.ok .next) { s with heap := h', toks := tk }) :
    codeAny (model PR w) A (.forLoop (.Name (Str.ofString "number") px) it body [] (toldE L)) R s₂ := by
  refine for_It (env := toldE L) F N H ⟨rfl, rfl⟩ hex (fun i m news => ∃ nb' vs' j', m = toldM rv pv nb' tn kp pr on tw ∧ IntsAre vs' (q ++ ns.take i) ∧ news = lgd w t1 t2 t3 t4 u1 u2 n line ld pb st cln oc k vs' j' rest) ?_ ?_ ?_ ?_
  · rintro i m news ⟨nb', vs', j', _, _, rfl⟩
    rfl
  · exact ⟨nb, vs, j, rfl, by simpa using hq, rfl⟩
  · rintro i m₁ mm news₁ own h tk E' hi ⟨v, hv, rfl⟩ ⟨nb', vs', j', rfl, hI, rfl⟩ ho F₁ N₁
    obtain ⟨a, t, ha, rfl⟩ := hP i v hv
    have hl := hI.length
    rw [toldM_nb] at F₁
    refine wpAny_mono (hb { s with heap := h, toks := tk } E' (.int a t) vs' j' (rest ++ own) rv pv tn kp pr on tw F₁ N₁ ?_ ?_) ?_ fun _ _ e => e
    · intro p hp
      rcases List.mem_append.mp hp with hp | hp
      · exact hr p hp
      · rcases ho p hp with h1 | h1
        · exact fun e => hpx (e ▸ h1)
        · exact Nat.ne_of_gt (h1 pb (by simp [lgd]))
    · rw [hl, List.length_append, List.length_take]; omega
    · rintro f s' ⟨rfl, h', tk', rfl, F', N'⟩
      refine ⟨rfl, h', tk', _, lgd w t1 t2 t3 t4 u1 u2 n line ld pb st cln oc k (vs' ++ [Value.int a t]) (j' + 1) rest, rfl, F', N', some (.int a t), vs' ++ [.int a t], j' + 1, rfl, ?_, rfl⟩
      have e : ns.take (i + 1) = ns.take i ++ [a] := by rw [List.take_add_one, ha]; rfl
      rw [e, ← List.append_assoc]
      exact ints_snoc hI
  · rintro h' tk m' news' F' N' ⟨nb', vs', j', rfl, hI, rfl⟩
    rw [List.take_length] at hI
    exact hR h' tk nb' vs' j' hI F' N'
end
end Mine

end
local macro_rules | `(tactic| walk_at "pyIter ref") => `(tactic| refine Mine.Stop.go ?_)
local macro_rules | `(tactic| walk_at "exec For Name Call cons nil") => `(tactic| refine PySem.wpAny_For ?_)
local macro_rules | `(tactic| walk_at "exec For Name Name cons nil") => `(tactic| refine PySem.wpAny_For ?_)
section
theorem Mine.resetT4 : True := by
  w_top off
  trivial
open PySem PySem.W PyProof.Rows PySem.Calls
set_option Elab.async false
set_option maxRecDepth 100000
set_option maxHeartbeats 2000000
set_option linter.unusedVariables false
namespace Mine
theorem fillT4 : (PySem.Challenge.rw_wf0014_01, hd.heap_39) = (PySem.Challenge.rw_wf0014_01, hd.heap_39) := by
  k_fill
  rfl
noncomputable def pst1 : List Int × List Int → List Int × List Int
  | (a :: b :: r, k) => (r ++ [a + b], k ++ [a - b])
  | p => p
noncomputable def pst : Nat → List Int × List Int → List Int × List Int
  | 0, p => p
  | n + 1, p => pst1 (pst n p)
noncomputable def R8 : List Int → List Int
  | [a, b, c, d, e, f, g, h] => [a + b, c + d, e + f, g + h, a - b, c - d, e - f, g - h]
  | l => l
theorem ints_inv {vs : List Value} {x : Int} {ns : List Int} (h : IntsAre vs (x :: ns)) : ∃ t vs', vs = .int x t :: vs' ∧ IntsAre vs' ns := by
  cases h with
  | cons _ t h => exact ⟨t, _, rfl, h⟩
theorem ints_at {vs : List Value} {ns : List Int} (h : IntsAre vs ns) {i : Nat} {v : Value} (e : vs[i]? = some v) : ∃ a t, ns[i]? = some a ∧ v = .int a t := by
  induction h generalizing i with
  | nil => simp at e
  | cons n t h ih =>
    cases i with
    | zero => exact ⟨n, t, rfl, (Option.some.inj e).symm⟩
    | succ i => exact ih (by simpa using e)
theorem AllLt.mem {a : Addr} {l : List (Addr × Obj)} (h : AllLt a l) : ∀ p ∈ l, p.1 < a := kst_ltOf h
theorem pst_two {q : List Int} (hq : q.length = 8) : ∀ i, i < 4 → ∃ x y r, (pst i (q, [])).1 = x :: y :: r ∧ r.length < 900 ∧ (pst i (q, [])).2.length = i := by
  match q, hq with
  | [a, b, c, d, e, f, g, h], _ =>
    intro i hi
    match i, hi with
    | 0, _ => exact ⟨_, _, _, rfl, by simp, rfl⟩
    | 1, _ => exact ⟨_, _, _, rfl, by simp, rfl⟩
    | 2, _ => exact ⟨_, _, _, rfl, by simp, rfl⟩
    | 3, _ => exact ⟨_, _, _, rfl, by simp, rfl⟩
theorem pst_end {q : List Int} (hq : q.length = 8) : (pst 4 (q, [])).1 ++ (pst 4 (q, [])).2 = R8 q ∧ (pst 4 (q, [])).1.length + (pst 4 (q, [])).2.length < 1000 := by
  match q, hq with
  | [a, b, c, d, e, f, g, h], _ => exact ⟨rfl, by simp [pst, pst1]⟩
theorem R8_len {q : List Int} (hq : q.length = 8) : (R8 q).length = 8 := by
  match q, hq with
  | [a, b, c, d, e, f, g, h], _ => rfl
section
variable {w : World} {mean : ExcName → Option Value} {mg mb : Str → Option Value} {A₀ : Around} {outer : List Env} {base h₀ : Heap} {L : Nat} {m : Str → Option Value} {s : Shared} {Q : Flow → Shared → Prop} {E : Value → Shared → Prop}
  {line ld pb st cln kpa : Nat} {oc : Obj} {t1 t2 t3 t4 u1 u2 : Tok} {n : Int} {vs ks : List Value} {k j jk : Nat} {rest : List (Addr × Obj)} {dp un : Nat} {gd : Option (List Code)}
  {rv pv nb tn kp pr on tw : Option Value}
theorem toldM_pr {v : Value} : up1 (Str.ofString "pair") v (toldM rv pv nb tn kp pr on tw) = toldM rv pv nb tn kp (some v) on tw := by
  funext y
  by_cases h : y = Str.ofString "pair"
  · subst h; rfl
  · simp only [up1, toldM, if_neg h]
theorem toldM_kp {v : Value} : up1 (Str.ofString "kept") v (toldM rv pv nb tn kp pr on tw) = toldM rv pv nb tn (some v) pr on tw := by
  funext y
  by_cases h : y = Str.ofString "kept"
  · subst h; rfl
  · simp only [up1, toldM, if_neg h]
theorem toldM_tn {v : Value} : up1 (Str.ofString "turn") v (toldM rv pv nb tn kp pr on tw) = toldM rv pv nb (some v) kp pr on tw := by
  funext y
  by_cases h : y = Str.ofString "turn"
  · subst h; rfl
  · simp only [up1, toldM, if_neg h]
noncomputable abbrev lgk (w : World) (t1 t2 t3 t4 u1 u2 : Tok) (n : Int) (line ld pb st cln kpa : Addr) (oc : Obj) (k : Nat) (vs : List Value) (j : Nat) (ks : List Value) (jk : Nat) (rest : List (Addr × Obj)) : List (Addr × Obj) :=
  (line, instObj 59 ld) :: (ld, dictOf (lineD w t1 t2 t3 t4 u1 u2 n st pb) k) :: (pb, listOf vs.toArray j) :: (kpa, listOf ks.toArray jk) :: (cln, oc) :: rest
theorem pair_loop {R : Result → Shared → Prop} {px : Pos} {P : Nat → Value → Prop} {it : Value} {s₂ : Shared} {q : List Int} (B : Below A₀ base outer h₀) (X : (hd.heap_39 w.params).In h₀) (T : Top TP TL mean mg mb h₀) (hroom : dp < recursionLimit)
    (hoc : oc.data = .cell (some (.ref line))) (hC : cln = L + 1) {hnd : Option Value}
    (o2 : pb ≠ line) (o3 : pb ≠ ld) (o4 : pb ≠ cln) (o5 : pb ≠ kpa) (hr : ∀ p ∈ rest, p.1 ≠ pb)
    (q2 : kpa ≠ line) (q3 : kpa ≠ ld) (q4 : kpa ≠ cln) (hr2 : ∀ p ∈ rest, p.1 ≠ kpa)
    (F : Fr h₀ L s.heap (toldM rv pv nb tn (some (.ref kpa)) pr on tw)) (N : News h₀ L s.heap (lgk w t1 t2 t3 t4 u1 u2 n line ld pb st cln kpa oc k vs j [] jk rest))
    (H : IterF PR w (AA hnd dp (toldE L) outer gd un) h₀ L (toldM rv pv nb tn (some (.ref kpa)) pr on tw) (lgk w t1 t2 t3 t4 u1 u2 n line ld pb st cln kpa oc k vs j [] jk rest) s [] 4 (.Name (Str.ofString "pair") px) (Ok1 (Str.ofString "pair")) (Bd1 (Str.ofString "pair") P) it s₂)
    (hq : IntsAre vs q) (hlen : q.length = 8)
    (hR : ∀ h' tk pr' on' tw' vs' ks' j' jk', IntsAre vs' (pst 4 (q, [])).1 → IntsAre ks' (pst 4 (q, [])).2 → Fr h₀ L h' (toldM rv pv nb tn (some (.ref kpa)) pr' on' tw') → News h₀ L h' (lgk w t1 t2 t3 t4 u1 u2 n line ld pb st cln kpa oc k vs' j' ks' jk' rest) → R (.ok .next) { s with heap := h', toks := tk }) :
    codeAny (model PR w) (AA hnd dp (toldE L) outer gd un) (.forLoop (.Name (Str.ofString "pair") px) it pairB [] (toldE L)) R s₂ := by
  refine for_It (env := toldE L) F N H ⟨rfl, rfl⟩ (by simp) (fun i m news => ∃ pr' on' tw' vs' ks' j' jk', m = toldM rv pv nb tn (some (.ref kpa)) pr' on' tw' ∧ IntsAre vs' (pst i (q, [])).1 ∧ IntsAre ks' (pst i (q, [])).2 ∧ news = lgk w t1 t2 t3 t4 u1 u2 n line ld pb st cln kpa oc k vs' j' ks' jk' rest) ?_ ?_ ?_ ?_
  · rintro i m news ⟨pr', on', tw', vs', ks', j', jk', _, _, _, rfl⟩
    rfl
  · exact ⟨pr, on, tw, vs, [], j, jk, rfl, hq, IntsAre.nil, rfl⟩
  · rintro i m₁ mm news₁ own h tk E' hi ⟨v, hv, rfl⟩ ⟨pr', on', tw', vs', ks', j', jk', rfl, hI, hK, rfl⟩ ho F₁ N₁
    obtain ⟨x, y, r, e1, hr3, e2⟩ := pst_two hlen i hi
    rw [e1] at hI
    obtain ⟨tx, vs₁, rfl, hI1⟩ := ints_inv hI
    obtain ⟨ty, vs₂, rfl, hI2⟩ := ints_inv hI1
    rw [toldM_pr] at F₁
    refine pair_B (rest := rest ++ own) B X T hroom hoc hC rfl F₁ N₁ o2 o3 o4 o5 ?_ ?_ q2 q3 q4 ?_ ?_ ?_
    · intro p hp
      rcases List.mem_append.mp hp with hp | hp
      · exact hr p hp
      · rcases ho p hp with h1 | h1
        · cases h1
        · exact Nat.ne_of_gt (h1 pb (by simp [lgk]))
    · rw [hI2.length]; omega
    · intro p hp
      rcases List.mem_append.mp hp with hp | hp
      · exact hr2 p hp
      · rcases ho p hp with h1 | h1
        · cases h1
        · exact Nat.ne_of_gt (h1 kpa (by simp [lgk]))
    · rw [hK.length, e2]; omega
    · intro h' tk' on'' tw'' tc td jk'' j'' F' N'
      refine ⟨rfl, h', tk', _, lgk w t1 t2 t3 t4 u1 u2 n line ld pb st cln kpa oc k (vs₂ ++ [Value.int (x + y) tc]) j'' (ks' ++ [Value.int (x - y) td]) jk'' rest, rfl, F', N', some v, on'', tw'', _, _, j'', jk'', rfl, ?_, ?_, rfl⟩
      · show IntsAre _ (pst1 (pst i (q, []))).1
        rw [show pst i (q, []) = (x :: y :: r, (pst i (q, [])).2) from by rw [← e1]]
        exact ints_snoc hI2
      · show IntsAre _ (pst1 (pst i (q, []))).2
        rw [show pst i (q, []) = (x :: y :: r, (pst i (q, [])).2) from by rw [← e1]]
        exact ints_snoc hK
  · rintro h' tk m' news' F' N' ⟨pr', on', tw', vs', ks', j', jk', rfl, hI, hK, rfl⟩
    exact hR h' tk pr' on' tw' vs' ks' j' jk' hI hK F' N'
theorem turn_B {q : List Int} (B : Below A₀ base outer h₀) (X : (hd.heap_39 w.params).In h₀) (T : Top TP TL mean mg mb h₀) (hroom : dp < recursionLimit)
    (hoc : oc.data = .cell (some (.ref line))) (hC : cln = L + 1)
    (F : Fr h₀ L s.heap (toldM rv pv nb tn kp pr on tw))
    (N : News h₀ L s.heap (lgd w t1 t2 t3 t4 u1 u2 n line ld pb st cln oc k vs j rest)) (hI : IntsAre vs q) (hlen : q.length = 8)
    (o2 : pb ≠ line) (o3 : pb ≠ ld) (o4 : pb ≠ cln) (hr : ∀ p ∈ rest, p.1 ≠ pb)
    (hret : ∀ h' tk' nb' kp' pr' on' tw' vs' j', IntsAre vs' (R8 q) → Fr h₀ L h' (toldM rv pv nb' tn kp' pr' on' tw') → News h₀ L h' (lgd w t1 t2 t3 t4 u1 u2 n line ld pb st cln oc k vs' j' rest) → Q .next { s with heap := h', toks := tk' }) :
    wpAny (model PR w) (AA none dp (toldE L) outer gd un) (execs turnB (toldE L)) Q E s := by
  have eS : fnS toldS = fnS toldS := rfl
  conv at eS => { rhs; whnf }
  have eB : turnB = turnB := rfl
  conv at eB => { rhs; whnf }
  rw [eB]
  dsimp only [toldE]
  rw [eS]
  subst hC
  k_steps
  (with_reducible rename News _ _ _ _ => N9)
  (with_reducible rename Fr _ _ _ _ => F9)
  (with_reducible rename IsRange _ _ _ _ _ _ _ _ => R9)
  rename_i kpa h1 l1 h2 F1 N1 h3 tk2 t9 u9 v9 k9
  have e9 := toldM_kp (rv := rv) (pv := pv) (nb := nb) (tn := tn) (kp := kp) (pr := pr) (on := on) (tw := tw) (v := .ref kpa)
  rw [show (fun y => if y = Str.ofString "kept" then some (Value.ref kpa) else toldM rv pv nb tn kp pr on tw y) = toldM rv pv nb tn (some (.ref kpa)) pr on tw from e9] at F9
  have N8 : News h₀ L h3 (lgk w t1 t2 t3 t4 u1 u2 n line ld pb st (L + 1) kpa oc k vs j [] 0 rest) := news_perm N9 (by
    intro p hp
    simp only [lgk, lgd, List.mem_cons] at hp ⊢
    rcases hp with h | h | h | h | h | h <;> simp only [h, true_or, or_true])
  refine Stop.mk ?_
  refine it_range (n := 4) R9 rfl (by decide) (by decide) F9 N8 fun it s₂ H => ?_
  refine pair_loop B X T hroom hoc rfl o2 o3 o4 (Nat.ne_of_lt l1.2.2.1) hr (Nat.ne_of_gt l1.1) (Nat.ne_of_gt l1.2.1) (Nat.ne_of_gt l1.2.2.2.1) ?_ F9 N8 (H _ _) hI hlen ?_
  · exact fun p hp => Nat.ne_of_lt (AllLt.mem l1.2.2.2.2 p hp)
  intro h' tk pr' on' tw' vs' ks' j' jk' hI' hK' F' N'
  dsimp only
  have E1 := pst_end hlen
  k_steps
  have N7 : News h₀ L h' (lgd w t1 t2 t3 t4 u1 u2 n line ld pb st (L + 1) oc k vs' j' ((kpa, listOf ks'.toArray jk') :: rest)) := news_perm N' (by
    intro p hp
    simp only [lgk, lgd, List.mem_cons] at hp ⊢
    rcases hp with h | h | h | h | h | h <;> simp only [h, true_or, or_true])
  have hk7 : h'.IsList kpa ks'.toArray := ⟨_, N7.get (.tail _ (.tail _ (.tail _ (.tail _ (.head _))))), rfl, _, rfl⟩
  refine Stop.mk ?_
  refine it_list rfl hk7 F' N7 fun it s₂ H => ?_
  have H' := H (Str.ofString "number") { line := 107, col := 12, endLine := 107, endCol := 18 }
  rw [hK'.length] at H'
  refine push_loop (push_body2 B X T hroom hoc rfl o2 o3 o4) F' N7 ?_ H' ?_ ?_ ?_ hI' E1.2 ?_
  · intro p hp
    rcases List.mem_cons.mp hp with rfl | hp
    · exact Nat.ne_of_gt l1.2.2.1
    · exact hr p hp
  · intro i v hv
    exact ints_at hK' hv
  · intro h
    have e := (N7 (kpa, listOf ks'.toArray jk') (.tail _ (.tail _ (.tail _ (.tail _ (.head _)))))).2.1
    exact e (List.mem_singleton.mp h).symm
  · intro h
    exact absurd (List.mem_singleton.mp h) (Nat.ne_of_lt l1.2.2.1)
  intro h'' tk'' nb'' vs'' j'' hI'' F'' N''
  rw [E1.1] at hI''
  dsimp only
  k_steps
  exact hret _ _ _ _ _ _ _ _ j'' hI'' F'' (news_perm N'' (by
    intro p hp
    simp only [lgd, List.mem_cons] at hp ⊢
    rcases hp with h | h | h | h | h <;> simp only [h, true_or, or_true]))
noncomputable def iterR : Nat → List Int → List Int
  | 0, q => q
  | i + 1, q => R8 (iterR i q)
theorem iterR_len {q : List Int} (hq : q.length = 8) : ∀ i, (iterR i q).length = 8
  | 0 => hq
  | i + 1 => R8_len (iterR_len hq i)
theorem turn_loop {R : Result → Shared → Prop} {px : Pos} {P : Nat → Value → Prop} {it : Value} {s₂ : Shared} {q : List Int} {nn : Nat} (B : Below A₀ base outer h₀) (X : (hd.heap_39 w.params).In h₀) (T : Top TP TL mean mg mb h₀) (hroom : dp < recursionLimit)
    (hoc : oc.data = .cell (some (.ref line))) (hC : cln = L + 1)
    (o2 : pb ≠ line) (o3 : pb ≠ ld) (o4 : pb ≠ cln) (hr : ∀ p ∈ rest, p.1 ≠ pb)
    (F : Fr h₀ L s.heap (toldM rv pv nb tn kp pr on tw)) (N : News h₀ L s.heap (lgd w t1 t2 t3 t4 u1 u2 n line ld pb st cln oc k vs j rest))
    (H : IterF PR w (AA none dp (toldE L) outer gd un) h₀ L (toldM rv pv nb tn kp pr on tw) (lgd w t1 t2 t3 t4 u1 u2 n line ld pb st cln oc k vs j rest) s [] nn (.Name (Str.ofString "turn") px) (Ok1 (Str.ofString "turn")) (Bd1 (Str.ofString "turn") P) it s₂)
    (hq : IntsAre vs q) (hlen : q.length = 8)
    (hR : ∀ h' tk nb' tn' kp' pr' on' tw' vs' j', IntsAre vs' (iterR nn q) → Fr h₀ L h' (toldM rv pv nb' tn' kp' pr' on' tw') → News h₀ L h' (lgd w t1 t2 t3 t4 u1 u2 n line ld pb st cln oc k vs' j' rest) → R (.ok .next) { s with heap := h', toks := tk }) :
    codeAny (model PR w) (AA none dp (toldE L) outer gd un) (.forLoop (.Name (Str.ofString "turn") px) it turnB [] (toldE L)) R s₂ := by
  refine for_It (env := toldE L) F N H ⟨rfl, rfl⟩ (by simp) (fun i m news => ∃ nb' tn' kp' pr' on' tw' vs' j', m = toldM rv pv nb' tn' kp' pr' on' tw' ∧ IntsAre vs' (iterR i q) ∧ news = lgd w t1 t2 t3 t4 u1 u2 n line ld pb st cln oc k vs' j' rest) ?_ ?_ ?_ ?_
  · rintro i m news ⟨nb', tn', kp', pr', on', tw', vs', j', _, _, rfl⟩
    rfl
  · exact ⟨nb, tn, kp, pr, on, tw, vs, j, rfl, hq, rfl⟩
  · rintro i m₁ mm news₁ own h tk E' hi ⟨v, hv, rfl⟩ ⟨nb', tn', kp', pr', on', tw', vs', j', rfl, hI, rfl⟩ ho F₁ N₁
    rw [toldM_tn] at F₁
    refine turn_B (rest := rest ++ own) B X T hroom hoc hC F₁ N₁ hI (iterR_len hlen i) o2 o3 o4 ?_ ?_
    · intro p hp
      rcases List.mem_append.mp hp with hp | hp
      · exact hr p hp
      · rcases ho p hp with h1 | h1
        · cases h1
        · exact Nat.ne_of_gt (h1 pb (by simp [lgd]))
    · intro h' tk' nb'' kp'' pr'' on'' tw'' vs'' j'' hI'' F' N'
      exact ⟨rfl, h', tk', _, lgd w t1 t2 t3 t4 u1 u2 n line ld pb st cln oc k vs'' j'' rest, rfl, F', N', nb'', some v, kp'', pr'', on'', tw'', vs'', j'', rfl, hI'', rfl⟩
  · rintro h' tk m' news' F' N' ⟨nb', tn', kp', pr', on', tw', vs', j', rfl, hI, rfl⟩
    exact hR h' tk nb' tn' kp' pr' on' tw' vs' j' hI F' N'
end
end Mine

end
section
theorem Mine.resetT5a : True := by
  w_top off
  trivial
open PySem PySem.W PyProof.Rows PySem.Calls PyProof.Rows.LCg
set_option Elab.async false
set_option maxRecDepth 100000
set_option maxHeartbeats 2000000
set_option linter.unusedVariables false
namespace Mine
theorem fillT5a : (PySem.Challenge.rw_wf0014_01, hd.heap_39) = (PySem.Challenge.rw_wf0014_01, hd.heap_39) := by
  k_fill
  rfl
section
variable {w : World} {mean : ExcName → Option Value} {mg mb : Str → Option Value} {A A₀ : Around} {env : Env} {outer : List Env} {base h₀ : Heap} {L : Addr} {m : Str → Option Value} {s : Shared} {Q E : Value → Shared → Prop} {news : List (Addr × Obj)}
theorem getitem_C {D : Nat} {ys : List Value} {jj : Nat} {ns : List Int} {p : Int} {tp : Tok} (B : Below A₀ base outer h₀) (F : Fr h₀ L s.heap m) (X : (hd.heap_39 w.params).In h₀) (N : News h₀ L s.heap news)
    (T : Top TP TL mean mg mb h₀) (hA : A.frames = some (env :: outer)) (hf : env.frame = some L) (hke : env.scope.kind = .function) (hroom : A.depth < recursionLimit)
    (hm : (D, listOf ys.toArray jj) ∈ news) (hI : IntsAre ys ns) (h0 : 0 ≤ p) (hp : p < (ns.length : Int)) (hz : ns.length < 1000)
    (hret : ∀ h' tk' t, Fr h₀ L h' m → News h₀ L h' news → Q (.int (ns.getD p.toNat 0) t) { s with heap := h', toks := tk' }) :
    wpAny (model PR w) A (call (.ref 126) [.ref D, .int p tp]) Q E s := by
  refine wpAny_call ?_
  k_dflt (refine' code_def ?k1 ?k2 ?k3 ?k4 ?k5 ?kA ?kF ?kK ?k6 ?k7 ?k8 ?k9 ?kB ?_ ?c2 ?c3 ?c4 ?c5; (case kA => assumption); (case kF => assumption); (case kK => assumption); (case k1 => k_asm); (case k2 => k_asm); (case k3 => k_asm); (case k4 => k_asm); (case k5 => k_asm); (case k6 => k_is); (case k7 => k_is); (case k8 => assumption); (case k9 => exact BindsTo.of_eq rfl); (case c5 => decide); (case kB => exact locs rfl); (case c2 => exact rfl); (case c3 => exact rfl); (case c4 => exact rfl); k_whole; intro g' L' h' FG' F' N' B' X' T'; (try dsimp only); (try k_fold))
  (with_reducible rename News _ _ _ _ => N9)
  (with_reducible rename Fr _ _ _ _ => F9)
  have hl9 : Heap.IsList _ D ys.toArray := ⟨_, News.get N9 hm, rfl, _, rfl⟩
  have h2 : p < 2 ^ 63 := by omega
  k_steps
  exact hret _ _ _ (by assumption) (by assumption)
end
end Mine

end
local macro_rules | `(tactic| walk_at "eval ListComp") => `(tactic| refine Mine.Stop.go ?_)
section
theorem Mine.resetT5 : True := by
  w_top off
  trivial
open PySem PySem.W PyProof.Rows PySem.Calls PyProof.Rows.LCg
set_option Elab.async false
set_option maxRecDepth 100000
set_option maxHeartbeats 2000000
set_option linter.unusedVariables false
namespace Mine
theorem news_drop1 {g h : Heap} {L : Addr} {a b : Addr × Obj} {r : List (Addr × Obj)} (N : News g L h (a :: b :: r)) : News g L h (a :: r) := news_perm N (by
    intro p hp
    simp only [List.mem_cons] at hp ⊢
    rcases hp with h | h <;> simp only [h, true_or, or_true])
theorem fillT5 : (PySem.Challenge.rw_wf0014_01, hd.heap_39) = (PySem.Challenge.rw_wf0014_01, hd.heap_39) := by
  k_fill
  rfl
section
variable {w : World} {mean : ExcName → Option Value} {mg mb : Str → Option Value} {A₀ : Around} {outer : List Env} {base h₀ : Heap} {L : Nat} {m : Str → Option Value} {s : Shared} {Q : Flow → Shared → Prop} {E : Value → Shared → Prop}
  {line ld pb st cln kpa pl : Nat} {oc o5 : Obj} {t1 t2 t3 t4 u1 u2 : Tok} {n : Int} {vs ks pvs : List Value} {k j jk jp : Nat} {rest : List (Addr × Obj)} {dp un : Nat} {gd : Option (List Code)}
  {rv pv nb tn kp pr on tw : Option Value}
local macro_rules | `(tactic| walk_at "call ref") => `(tactic| (k_here; (try dsimp only [List.cons_append, List.nil_append]); (with_reducible show wpAny _ _ (call (Value.ref 126) [Value.ref _, Value.int _ _]) _ _ _); k_dflt (refine' getitem_C ?B ?F ?X ?N ?T ?hA ?hf ?hke ?hr ?m1 ?hI ?h0 ?hp ?hz ?_; (case B => k_asm); (case F => k_asm); (case X => k_asm); (case N => k_asm); (case T => k_asm); (case hA => exact rfl); (case hf => exact rfl); (case hke => exact rfl); (case hr => assumption); (case m1 => k_mem); (case hI => assumption); (case h0 => assumption); (case hp => assumption); (case hz => assumption)); intro h' tk' t' F' N'; (try dsimp only [List.nil_append, List.cons_append] at N'); (try k_sweep)))
local macro_rules | `(tactic| walk_at "call ref") => `(tactic| (k_here; (try dsimp only [List.cons_append, List.nil_append]); (with_reducible show wpAny _ _ (call (Value.ref 49) [Value.ref _]) _ _ _); k_dflt (refine' get_C ?B ?F ?X ?N ?T ?hA ?hf ?hke ?hr ?m1 ?m2 ?U ?hz ?_; (case B => k_asm); (case F => k_asm); (case X => k_asm); (case N => k_asm); (case T => k_asm); (case hA => exact rfl); (case hf => exact rfl); (case hke => exact rfl); (case hr => assumption); (case m1 => k_mem); (case m2 => k_mem); (case U => k_upd); (case hz => assumption)); intro h' tk' F' N'; (try dsimp only [List.nil_append, List.cons_append] at N'); (try k_sweep)))
theorem told_rest {q : List Int} (B : Below A₀ base outer h₀) (X : (hd.heap_39 w.params).In h₀) (T : Top TP TL mean mg mb h₀) (hroom : dp < recursionLimit)
    (hoc : oc.data = .cell (some (.ref line))) (hC : cln = L + 1) (hoc5 : o5.data = .cell none)
    (F : Fr h₀ L s.heap (toldM rv (some (.ref pl)) nb none none none none none))
    (N : News h₀ L s.heap (lgd w t1 t2 t3 t4 u1 u2 n line ld pb st cln oc k vs j ((L + 1 + 1, o5) :: (pl, listOf pvs.toArray jp) :: rest))) (hI : IntsAre vs q) (hlen : q.length = 8)
    (o2 : pb ≠ line) (o3 : pb ≠ ld) (o4 : pb ≠ cln) (o6 : pb ≠ L + 1 + 1) (o7 : pb ≠ pl) (hr : ∀ p ∈ rest, p.1 ≠ pb) (hr5 : ∀ p ∈ rest, p.1 ≠ L + 1 + 1) (y1 : line < L) (y2 : ld < L) (y3 : pb < L) (y4 : pl < L)
    {ps : List Int} (hps : IntsAre pvs ps) (hpr : ∀ p ∈ ps, 0 ≤ p ∧ p < 8) (hpl : ps.length < 1000)
    (hret : ∀ h' tk' D ys vs' j' o9 m', IntsAre ys (ps.map fun p => (iterR 3 q).getD p.toNat 0) → IntsAre vs' [] → Fr h₀ L h' m' → News h₀ L h' ((D, lst ys) :: lgd w t1 t2 t3 t4 u1 u2 n line ld pb st cln oc k vs' j' ((L + 1 + 1, o9) :: (pl, listOf pvs.toArray jp) :: rest)) → line < D ∧ ld < D ∧ pb < D ∧ pl < D → (∀ p ∈ rest, p.1 < D) → Q (.ret (.ref D)) { s with heap := h', toks := tk' }) :
    wpAny (model PR w) (AA none dp (toldE L) outer gd un) (execs ((fnB toldS).drop 1) (toldE L)) Q E s := by
  have eS : fnS toldS = fnS toldS := rfl
  conv at eS => { rhs; whnf }
  have eB : (fnB toldS).drop 1 = Stmt.For (.Name (Str.ofString "turn") { line := 100, col := 8, endLine := 100, endCol := 12 }) (.Call (.Name (Str.ofString "range") { line := 100, col := 16, endLine := 100, endCol := 21 }) [.Constant (.int 3) 0 { line := 100, col := 22, endLine := 100, endCol := 23 }] [] { line := 100, col := 16, endLine := 100, endCol := 24 }) turnB [] { line := 100, col := 4, endLine := 108, endCol := 35 } :: (fnB toldS).drop 2 := rfl
  rw [eB]
  dsimp only [toldE]
  rw [eS]
  subst hC
  k_steps
  refine wpAny_For ?_
  k_steps
  (with_reducible rename News _ _ _ _ => N9)
  (with_reducible rename Fr _ _ _ _ => F9)
  (with_reducible rename IsRange _ _ _ _ _ _ _ _ => R9)
  refine Stop.mk ?_
  refine it_range (n := 3) R9 rfl (by decide) (by decide) F9 N9 fun it s₂ H => ?_
  refine turn_loop B X T hroom hoc rfl o2 o3 o4 ?_ F9 N9 (H _ _) hI hlen ?_
  · intro p hp
    simp only [List.mem_cons] at hp
    rcases hp with rfl | rfl | hp
    · exact Ne.symm o6
    · exact Ne.symm o7
    · exact hr p hp
  clear F9 N9 H
  intro h' tk nb' tn' kp' pr' on' tw' vs' j' hI' F' N'
  dsimp only
  have eB2 : (fnB toldS).drop 2 = (fnB toldS).drop 2 := rfl
  conv at eB2 => { rhs; whnf }
  rw [eB2]
  k_steps
  refine Stop.mk ?_
  refine ListComp_F (L := L) (m := toldM rv (some (.ref pl)) nb' tn' kp' pr' on' tw') (h₀ := h₀) rfl (by decide) rfl (by decide) ?_
  k_steps
  (with_reducible rename News _ _ _ _ => N9)
  (with_reducible rename Fr _ _ _ _ => F9)
  (with_reducible rename IsRange _ _ _ _ _ _ _ _ => R9)
  unfold SrcF
  refine it_range (n := 8) R9 rfl (by decide) (by decide) F9 N9 fun it s₂ H => ?_
  have hRl := iterR_len hlen 3
  refine src_It F9 N9 (H _ _) (fun C => ⟨rfl, rfl⟩) (by simp) (by rw [sizeLine_eq]; decide)
    (fun i ys news => ∃ vs' j', ys.length = i ∧ IntsAre ys ((iterR 3 q).take i) ∧ IntsAre vs' ((iterR 3 q).drop i) ∧ news = lgd w t1 t2 t3 t4 u1 u2 n line ld pb st (L + 1) oc k vs' j' ((L + 1 + 1, o5) :: (pl, listOf pvs.toArray jp) :: rest)) ?_ ?_ ?_ ?_ ?_ ?_
  · rintro i ys news ⟨vs', j', _, _, _, rfl⟩; rfl
  · rintro i ys news ⟨vs', j', e, _⟩; exact e
  · exact ⟨vs', j', rfl, by simpa using IntsAre.nil, by simpa using hI', rfl⟩
  · rintro i C oC D m₁ m₂ ys news₁ own h tk E' hi ⟨v, hv, rfl⟩ hoC ⟨vs₁, j₁, hl₁, hy₁, hv₁, rfl⟩ ho hnl hol F₁ N₁
    have hd : (iterR 3 q).drop i = (iterR 3 q)[i]'(by omega) :: (iterR 3 q).drop (i + 1) := List.drop_eq_getElem_cons (by omega)
    rw [hd] at hv₁
    obtain ⟨tx, vs₂, rfl, hv₂⟩ := ints_inv hv₁
    have z0 : (Value.int ((iterR 3 q)[i]'(by omega)) tx :: vs₂).length < 1000 := by
      rw [List.length_cons, hv₂.length, List.length_drop]; omega
    have hr9 : ∀ p ∈ rest ++ own, p.1 ≠ pb := fun p hp => by
      rcases List.mem_append.mp hp with hp | hp
      · exact hr p hp
      · rcases ho p hp with h1 | h1
        · cases h1
        · exact Nat.ne_of_gt (h1 pb (by simp [lgd]))
    have cpb : C ≠ pb := Nat.ne_of_gt (hnl _ (.tail _ (.tail _ (.head _)))).2
    have dpb : D ≠ pb := Nat.ne_of_gt (hnl _ (.tail _ (.tail _ (.head _)))).1
    clear F9 N9 R9 H hret
    have hx : (iterR 3 q)[i]? = some ((iterR 3 q)[i]'(by omega)) := List.getElem?_eq_getElem (by omega)
    generalize (iterR 3 q)[i]'(by omega) = x at *
    dsimp only [lgd, List.cons_append] at N₁
    generalize hrest : rest ++ own = rest' at *
    k_steps
    (with_reducible rename News _ _ _ _ => N9)
    refine EltPost.mk (lgd w t1 t2 t3 t4 u1 u2 n line ld pb st (L + 1) oc k vs₂ (j₁ + 1) ((L + 1 + 1, o5) :: (pl, listOf pvs.toArray jp) :: rest)) (by assumption) ?_ ⟨vs₂, j₁ + 1, ?_, ?_, hv₂, rfl⟩
    · rw [← hrest] at N9
      exact N9
    · rw [List.length_append, List.length_singleton, hl₁]
    · rw [List.take_add_one, hx]
      exact ints_snoc hy₁
  · intro D h₃ tk₃ ys news₃ ⟨vs₃, j₃, hl₃, hy₃, hv₃, e₃⟩ F₃ N₃ hD₃
    subst e₃
    clear F9 N9 R9 H
    have z5 : L + 1 + 1 < D := hD₃ _ (.tail _ (.tail _ (.tail _ (.tail _ (.head _)))))
    clear hD₃
    dsimp only [lgd] at N₃
    have zl : line ≠ L + 1 + 1 := by omega
    have zd : ld ≠ L + 1 + 1 := by omega
    have zp : pl ≠ L + 1 + 1 := by omega
    have zD : D ≠ L + 1 + 1 := Nat.ne_of_gt z5
    have z1 : L + 1 ≠ L + 1 + 1 := by omega
    k_steps
    have hv4 : IntsAre vs₃ [] := by
      rw [List.drop_of_length_le (by omega)] at hv₃; exact hv₃
    clear hv₃
    refine Stop.mk ?_
    refine ListComp_F (L := L) (m := toldM rv (some (.ref pl)) nb' tn' kp' pr' on' tw') (h₀ := h₀) rfl (by decide) rfl (by decide) ?_
    k_steps
    (with_reducible rename News _ _ _ _ => N9)
    (with_reducible rename Fr _ _ _ _ => F9)
    rename_i o9 d9
    have hl9 : Heap.IsList _ pl pvs.toArray := ⟨_, N9.get (.tail _ (.tail _ (.tail _ (.tail _ (.tail _ (.tail _ (.head _))))))), rfl, _, rfl⟩
    have hLp : L ∉ [pl] := fun e => absurd (List.mem_singleton.mp e) (Nat.ne_of_gt y4)
    unfold SrcF
    refine it_list rfl hl9 F9 N9 fun it s₂ H => ?_
    rw [hps.length] at H
    refine src_It F9 N9 (H _ _) (fun C => ⟨rfl, rfl⟩) hLp (by rw [sizeLine_eq]; omega)
      (fun i ys' news => ys'.length = i ∧ IntsAre ys' ((ps.take i).map fun p => (iterR 3 q).getD p.toNat 0) ∧ news = (D, lst ys) :: lgd w t1 t2 t3 t4 u1 u2 n line ld pb st (L + 1) oc k vs₃ j₃ ((L + 1 + 1, o9) :: (pl, listOf pvs.toArray jp) :: rest)) ?_ ?_ ?_ ?_ ?_ ?_
    · rintro i ys news ⟨_, _, rfl⟩; rfl
    · rintro i ys news ⟨e, _⟩; exact e
    · exact ⟨rfl, by simpa using IntsAre.nil, rfl⟩
    · rintro i C oC D₁ m₁ m₂ ys₁ news₁ own h tk E' hi ⟨v, hv, rfl⟩ hoC ⟨hl₁, hy₁, rfl⟩ ho hnl hol F₁ N₁
      obtain ⟨p, tp, hp, rfl⟩ := ints_at hps hv
      obtain ⟨p0, p8⟩ := hpr p (List.mem_of_getElem? hp)
      have hR8 := hRl
      have e8 : (List.take 8 (iterR 3 q)).length = 8 := by rw [List.length_take, hRl]; rfl
      rw [show List.take 8 (iterR 3 q) = iterR 3 q from List.take_of_length_le (by omega)] at hy₃
      clear F9 N9 H hret ho hnl hol
      dsimp only [lgd, List.cons_append] at N₁
      generalize hrest : rest ++ own = rest' at *
      have hm2 : up1 (Str.ofString "place") (Value.int p tp) m₁ (Str.ofString "place") = some (Value.int p tp) := rfl
      have hp2 : p < ((iterR 3 q).length : Int) := by rw [hRl]; exact p8
      have hp3 : (iterR 3 q).length < 1000 := by rw [hRl]; decide
      k_steps
      (with_reducible rename News _ _ _ _ => N9)
      refine EltPost.mk ((D, lst ys) :: lgd w t1 t2 t3 t4 u1 u2 n line ld pb st (L + 1) oc k vs₃ j₃ ((L + 1 + 1, o9) :: (pl, listOf pvs.toArray jp) :: rest)) (by assumption) ?_ ?_
      · rw [← hrest] at N9
        exact N9
      refine ⟨?_, ?_, rfl⟩
      · rw [List.length_append, List.length_singleton, hl₁]
      · rw [List.take_add_one, hp, List.map_append]
        exact ints_snoc hy₁
    · rintro D₂ h₂ tk₂ ys₂ news₂ ⟨hl₂, hy₂, rfl⟩ F₂ N₂ hD₂
      rw [List.take_length] at hy₂
      have e1 := hD₂ _ (.tail _ (.head _))
      have e2 := hD₂ _ (.tail _ (.tail _ (.head _)))
      have e3 := hD₂ _ (.tail _ (.tail _ (.tail _ (.head _))))
      have e4 := hD₂ _ (.tail _ (.tail _ (.tail _ (.tail _ (.tail _ (.tail _ (.head _)))))))
      exact hret _ _ D₂ ys₂ vs₃ j₃ o9 _ hy₂ hv4 F₂ (news_drop1 N₂) ⟨e1, e2, e3, e4⟩ (fun p hp => hD₂ p (.tail _ (.tail _ (.tail _ (.tail _ (.tail _ (.tail _ (.tail _ hp))))))))
    · exact fun hp tk h => h
  · exact fun hp tk h => h
end
end Mine

end
section
theorem Mine.resetT6 : True := by
  w_top off
  trivial
open PySem PySem.W PyProof.Rows PySem.Calls PyProof.Rows.LCg
set_option Elab.async false
set_option maxRecDepth 100000
set_option maxHeartbeats 2000000
set_option linter.unusedVariables false
namespace Mine
theorem toldM_0 {rv pv : Value} {L : Addr} {tl : Value} : bindL (toldE L).kindOf [(Str.ofString "line", tl), (Str.ofString "row", rv), (Str.ofString "places", pv)] (fun _ => none) = toldM (some rv) (some pv) none none none none none none := by
  funext y
  have e : bindL (toldE L).kindOf [(Str.ofString "line", tl), (Str.ofString "row", rv), (Str.ofString "places", pv)] (fun _ => none) = fun y => if y = Str.ofString "places" then some pv else if y = Str.ofString "row" then some rv else none := rfl
  rw [e]
  by_cases h1 : y = Str.ofString "places"
  · subst h1; rfl
  · by_cases h2 : y = Str.ofString "row"
    · subst h2; rfl
    · simp only [toldM, if_neg h1, if_neg h2]
      (repeat' split) <;> rfl
theorem fillT6 : (PySem.Challenge.rw_wf0014_01, hd.heap_39) = (PySem.Challenge.rw_wf0014_01, hd.heap_39) := by
  k_fill
  rfl
section
variable {w : World} {mean : ExcName → Option Value} {mg mb : Str → Option Value} {A₀ : Around} {env : Env} {outer : List Env} {base h₀ : Heap} {L : Nat} {m : Str → Option Value} {s : Shared} {Q E : Value → Shared → Prop}
  {line ld pb st pl row : Nat} {t1 t2 t3 t4 u1 u2 : Tok} {n : Int} {vs ks pvs rvs : List Value} {k j jk jp kr : Nat} {rest : List (Addr × Obj)} {dp un : Nat} {gd : Option (List Code)}
theorem told_L {q ps : List Int} (B : Below A₀ base outer h₀) (F : Fr h₀ L s.heap m) (X : (hd.heap_39 w.params).In h₀) (T : Top TP TL mean mg mb h₀) (hf : env.frame = some L) (hke : env.scope.kind = .function) (hroom : dp + 8 < recursionLimit)
    (N : News h₀ L s.heap ((line, instObj 59 ld) :: (ld, dictOf (lineD w t1 t2 t3 t4 u1 u2 n st pb) k) :: (pb, listOf ([] : List Value).toArray j) :: (pl, listOf pvs.toArray jp) :: rest))
    (hm : (row, listOf rvs.toArray kr) ∈ (pl, listOf pvs.toArray jp) :: rest) (hq : IntsAre rvs q) (hlen : q.length = 8) (hps : IntsAre pvs ps) (hpr : ∀ p ∈ ps, 0 ≤ p ∧ p < 8) (hpl : ps.length < 1000)
    (o2 : pb ≠ line) (o3 : pb ≠ ld) (o7 : pb ≠ pl) (hr : ∀ p ∈ rest, p.1 ≠ pb)
    (hret : ∀ h' tk' D ys j', IntsAre ys (ps.map fun p => (iterR 3 q).getD p.toNat 0) → Fr h₀ L h' m → News h₀ L h' ((D, lst ys) :: (line, instObj 59 ld) :: (ld, dictOf (lineD w t1 t2 t3 t4 u1 u2 n st pb) k) :: (pb, listOf ([] : List Value).toArray j') :: (pl, listOf pvs.toArray jp) :: rest) →
      (line < D ∧ ld < D ∧ pb < D ∧ pl < D) → (∀ p ∈ rest, p.1 < D) → Q (.ref D) { s with heap := h', toks := tk' }) :
    wpAny (model PR w) (AA none dp env outer gd un) (call (.ref 148) [.ref line, .ref row, .ref pl]) Q E s := by
  have hrow : row ≠ pb := by
    rintro rfl
    rcases List.mem_cons.mp hm with h | h
    · exact o7 (Prod.mk.inj h).1
    · exact hr _ h rfl
  refine wpAny_call ?_
  k_dflt (refine' code_defC ?k1 ?k2 ?k3 ?k4 ?k5 ?kA ?kF ?kK ?k6 ?k7 ?k8 ?k9 ?kB ?kD ?_ ?c2 ?c3 ?c4; (case kA => exact rfl); (case kF => assumption); (case kK => assumption); (case k1 => k_asm); (case k2 => k_asm); (case k3 => k_asm); (case k4 => k_asm); (case k5 => k_asm); (case k6 => k_is); (case k7 => k_is); (case k8 => (dsimp only [AA]; omega)); (case k9 => exact BindsTo.of_eq rfl); (case kB => exact rfl); (case kD => decide +kernel); (case c2 => exact rfl); (case c3 => exact rfl); (case c4 => exact rfl); k_whole; intro g' L' h' tk' cells' FG' F' N' Y' B' X' T' l1; (try k_lt l1); k_cells Y'; (try simp only [List.cons_append, List.nil_append] at N'); (try dsimp only); (try k_lift B'); (try k_fold))
  rename_i o' o2' d1' d2'
  have hoc : o2'.data = .cell (some (.ref line)) := d2'.trans rfl
  have hoc5 : o'.data = .cell none := d1'.trans rfl
  clear d1' d2'
  have F8 : Fr g' L' h' (toldM (some (.ref row)) (some (.ref pl)) none none none none none none) := by
    rw [← toldM_0 (L := L') (tl := .ref line)]; exact F'
  clear F'
  have lr : ∀ p ∈ rest, p.1 < L' := AllLt.mem l1.2.2.2.2
  have N8 : News g' L' h' (lgd w t1 t2 t3 t4 u1 u2 n line ld pb st (L' + 1) o2' k [] j ((L' + 1 + 1, o') :: (pl, listOf pvs.toArray jp) :: rest)) := news_perm N' (by
    intro p hp
    simp only [lgd, List.mem_cons] at hp ⊢
    rcases hp with h | h | h | h | h | h | h <;> simp only [h, true_or, or_true])
  clear N'
  have lp : pb < L' := l1.2.2.1
  have q3 : pb ≠ L' + 1 := Nat.ne_of_lt (Nat.lt_succ_of_lt lp)
  have q4 : pb ≠ L' + 1 + 1 := Nat.ne_of_lt (Nat.lt_succ_of_lt (Nat.lt_succ_of_lt lp))
  have hr1 : ∀ p ∈ (L' + 1 + 1, o') :: (pl, listOf pvs.toArray jp) :: rest, p.1 ≠ pb := by
    intro p hp
    simp only [List.mem_cons] at hp
    rcases hp with rfl | rfl | hp
    · exact Ne.symm q4
    · exact Ne.symm o7
    · exact hr p hp
  have hr5 : ∀ p ∈ rest, p.1 ≠ L' + 1 + 1 := fun p hp => Nat.ne_of_lt (Nat.lt_succ_of_lt (Nat.lt_succ_of_lt (lr p hp)))
  refine wpAny_execs_cons ?_
  refine wpAny_For ?_
  k_steps
  refine Stop.mk ?_
  (with_reducible rename News _ _ _ _ => N9)
  (with_reducible rename Fr _ _ _ _ => F9)
  have hmr : (row, listOf rvs.toArray kr) ∈ lgd w t1 t2 t3 t4 u1 u2 n line ld pb st (L' + 1) o2' k [] j ((L' + 1 + 1, o') :: (pl, listOf pvs.toArray jp) :: rest) := .tail _ (.tail _ (.tail _ (.tail _ (.tail _ hm))))
  have hl9 : Heap.IsList _ row rvs.toArray := ⟨_, N9.get hmr, rfl, _, rfl⟩
  refine it_list rfl hl9 F9 N9 fun it s₂ H => ?_
  have H' := H (Str.ofString "number") { line := 98, col := 8, endLine := 98, endCol := 14 }
  rw [hq.length] at H'
  refine push_loop (q := []) (push_body B' X' T' (by dsimp only; omega) hoc rfl o2 o3 q3) F9 N9 ?_ H' ?_ ?_ ?_ IntsAre.nil (by rw [hlen]; decide) ?_
  · exact hr1
  · intro i v hv
    exact ints_at hq hv
  · intro h
    exact (N9 _ hmr).2.1 (List.mem_singleton.mp h).symm
  · intro h
    exact hrow (List.mem_singleton.mp h).symm
  intro h₃ tk₃ nb₃ vs₃ j₃ hI₃ F₃ N₃
  rw [List.nil_append] at hI₃
  dsimp only
  refine told_rest (rest := rest) B' X' T' (by dsimp only; omega) hoc rfl hoc5 F₃ N₃ hI₃ hlen o2 o3 q3 q4 o7 hr hr5 l1.1 l1.2.1 lp l1.2.2.2.1 hps hpr hpl ?_
  intro h₄ tk₄ D ys vs₄ j₄ o₄ m₄ hy₄ hv₄ F₄ N₄ l₄ lr₄
  cases hv₄
  refine leaveK_ F₄ N₄ fun F₅ N₅ => ?_
  refine hret h₄ tk₄ D ys j₄ hy₄ F₅ (news_perm N₅ ?_) l₄ lr₄
  intro p hp
  simp only [lgd, List.mem_cons] at hp ⊢
  rcases hp with h | h | h | h | h | h <;> simp only [h, true_or, or_true]
theorem told_B {bs : Array UInt8} {tb : Tok} {q ps : List Int} (B : Below A₀ base outer h₀) (F : Fr h₀ L s.heap m) (X : (hd.heap_39 w.params).In h₀) (T : Top TP TL mean mg mb h₀) (hf : env.frame = some L) (hke : env.scope.kind = .function) (hroom : dp + 8 < recursionLimit)
    (N : News h₀ L s.heap ((line, instObj 59 ld) :: (ld, dictOf (lineD w t1 t2 t3 t4 u1 u2 n st pb) k) :: (pb, listOf ([] : List Value).toArray j) :: (pl, listOf pvs.toArray jp) :: rest))
    (hq : KBw.bInts bs = q) (hlen : q.length = 8) (hps : IntsAre pvs ps) (hpr : ∀ p ∈ ps, 0 ≤ p ∧ p < 8) (hpl : ps.length < 1000)
    (o2 : pb ≠ line) (o3 : pb ≠ ld) (o7 : pb ≠ pl) (hr : ∀ p ∈ rest, p.1 ≠ pb)
    (hret : ∀ h' tk' D ys j', IntsAre ys (ps.map fun p => (iterR 3 q).getD p.toNat 0) → Fr h₀ L h' m → News h₀ L h' ((D, lst ys) :: (line, instObj 59 ld) :: (ld, dictOf (lineD w t1 t2 t3 t4 u1 u2 n st pb) k) :: (pb, listOf ([] : List Value).toArray j') :: (pl, listOf pvs.toArray jp) :: rest) →
      (line < D ∧ ld < D ∧ pb < D ∧ pl < D) → (∀ p ∈ rest, p.1 < D) → Q (.ref D) { s with heap := h', toks := tk' }) :
    wpAny (model PR w) (AA none dp env outer gd un) (call (.ref 148) [.ref line, .bytes bs tb, .ref pl]) Q E s := by
  refine wpAny_call ?_
  k_dflt (refine' code_defC ?k1 ?k2 ?k3 ?k4 ?k5 ?kA ?kF ?kK ?k6 ?k7 ?k8 ?k9 ?kB ?kD ?_ ?c2 ?c3 ?c4; (case kA => exact rfl); (case kF => assumption); (case kK => assumption); (case k1 => k_asm); (case k2 => k_asm); (case k3 => k_asm); (case k4 => k_asm); (case k5 => k_asm); (case k6 => k_is); (case k7 => k_is); (case k8 => (dsimp only [AA]; omega)); (case k9 => exact BindsTo.of_eq rfl); (case kB => exact rfl); (case kD => decide +kernel); (case c2 => exact rfl); (case c3 => exact rfl); (case c4 => exact rfl); k_whole; intro g' L' h' tk' cells' FG' F' N' Y' B' X' T' l1; (try k_lt l1); k_cells Y'; (try simp only [List.cons_append, List.nil_append] at N'); (try dsimp only); (try k_lift B'); (try k_fold))
  rename_i o' o2' d1' d2'
  have hoc : o2'.data = .cell (some (.ref line)) := d2'.trans rfl
  have hoc5 : o'.data = .cell none := d1'.trans rfl
  clear d1' d2'
  have F8 : Fr g' L' h' (toldM (some (.bytes bs tb)) (some (.ref pl)) none none none none none none) := by
    rw [← toldM_0 (L := L') (tl := .ref line)]; exact F'
  clear F'
  have lr : ∀ p ∈ rest, p.1 < L' := AllLt.mem l1.2.2.2.2
  have N8 : News g' L' h' (lgd w t1 t2 t3 t4 u1 u2 n line ld pb st (L' + 1) o2' k [] j ((L' + 1 + 1, o') :: (pl, listOf pvs.toArray jp) :: rest)) := news_perm N' (by
    intro p hp
    simp only [lgd, List.mem_cons] at hp ⊢
    rcases hp with h | h | h | h | h | h | h <;> simp only [h, true_or, or_true])
  clear N'
  have lp : pb < L' := l1.2.2.1
  have q3 : pb ≠ L' + 1 := Nat.ne_of_lt (Nat.lt_succ_of_lt lp)
  have q4 : pb ≠ L' + 1 + 1 := Nat.ne_of_lt (Nat.lt_succ_of_lt (Nat.lt_succ_of_lt lp))
  have hr1 : ∀ p ∈ (L' + 1 + 1, o') :: (pl, listOf pvs.toArray jp) :: rest, p.1 ≠ pb := by
    intro p hp
    simp only [List.mem_cons] at hp
    rcases hp with rfl | rfl | hp
    · exact Ne.symm q4
    · exact Ne.symm o7
    · exact hr p hp
  have hr5 : ∀ p ∈ rest, p.1 ≠ L' + 1 + 1 := fun p hp => Nat.ne_of_lt (Nat.lt_succ_of_lt (Nat.lt_succ_of_lt (lr p hp)))
  refine wpAny_execs_cons ?_
  refine wpAny_For ?_
  k_steps
  refine Stop.mk ?_
  (with_reducible rename News _ _ _ _ => N9)
  (with_reducible rename Fr _ _ _ _ => F9)
  refine it_bytes rfl F9 N9 fun it s₂ H => ?_
  have H' := H (Str.ofString "number") { line := 98, col := 8, endLine := 98, endCol := 14 }
  rw [← KBw.ints_length, hq] at H'
  refine push_loop (q := []) (push_body B' X' T' (by dsimp only; omega) hoc rfl o2 o3 q3) F9 N9 ?_ H' ?_ ?_ ?_ IntsAre.nil (by rw [hlen]; decide) ?_
  · exact hr1
  · rintro i v ⟨c, u, hc, rfl⟩
    exact ⟨_, u, by rw [← hq]; exact KBw.ints_get hc, rfl⟩
  · simp
  · simp
  intro h₃ tk₃ nb₃ vs₃ j₃ hI₃ F₃ N₃
  rw [List.nil_append] at hI₃
  dsimp only
  refine told_rest (rest := rest) B' X' T' (by dsimp only; omega) hoc rfl hoc5 F₃ N₃ hI₃ hlen o2 o3 q3 q4 o7 hr hr5 l1.1 l1.2.1 lp l1.2.2.2.1 hps hpr hpl ?_
  intro h₄ tk₄ D ys vs₄ j₄ o₄ m₄ hy₄ hv₄ F₄ N₄ l₄ lr₄
  cases hv₄
  refine leaveK_ F₄ N₄ fun F₅ N₅ => ?_
  refine hret h₄ tk₄ D ys j₄ hy₄ F₅ (news_perm N₅ ?_) l₄ lr₄
  intro p hp
  simp only [lgd, List.mem_cons] at hp ⊢
  rcases hp with h | h | h | h | h | h <;> simp only [h, true_or, or_true]
end
end Mine

end
section
theorem Mine.resetS2 : True := by
  w_top off
  trivial
open PySem PySem.W PyProof.Rows PySem.Calls
open Sem (wp)
set_option Elab.async false
set_option maxRecDepth 100000
set_option maxHeartbeats 2000000
set_option linter.unusedVariables false
namespace Mine
section
variable {prog : Program} {w : World} {A₀ A : Around} {s : Shared} {base h₀ : Heap} {outer : List Env} {L : Addr} {m : Str → Option Value} {env : Env} {news : List (Addr × Obj)} {K : Frag} {p : Program} {loose : List Str} {mean : ExcName → Option Value} {mg mb : Str → Option Value}
noncomputable abbrev RS (Q : Flow → Shared → Prop) : Result → Shared → Prop := fun r s' => ∃ f, r = .ok f ∧ Q f s'
theorem RS.ret {Q : Flow → Shared → Prop} {v : Value} {s : Shared} (h : RS Q (.ok (.ret v)) s) : Q (.ret v) s := by
  obtain ⟨f, e, h⟩ := h
  cases e
  exact h
theorem code_defS {Q : Flow → Shared → Prop} {name qual : Str} {params : Arguments} {body : List Stmt} {scope : Scope} {dV kV doc pm cdv ct oc : Value} {an od : Option Addr} {osl : Array (Option Value)} {f : Addr} {args : Args} {binds : List (Str × Value)}
    (B : Below A₀ base outer h₀) (F : Fr h₀ L s.heap m) (X₀ : K.In h₀) (N : News h₀ L s.heap news) (T : Top p loose mean mg mb h₀) (hA : A.frames = some (env :: outer)) (hf : env.frame = some L) (hke : env.scope.kind = .function)
    (ho : K.lookup f = some ⟨oc, od, .func (fnOf name qual params body scope dV kV doc pm an cdv ct), osl⟩) (hcd : codeIn K cdv qual = true) (hroom : A.depth < recursionLimit)
    (hbind : BindsTo s (fnOf name qual params body scope dV kV doc pm an cdv ct) args binds) (hloc : ∀ y ∈ binds, scope.names.lookup y.1 = some .local)
    (h : ∀ g L' h₁, Fr h₀ L g m → Fr g L' h₁ (fun y => binds.reverse.lookup y) → News g L' h₁ news → Below A base (env :: outer) g → K.In g → Top p loose mean mg mb g → (∀ p ∈ news, p.1 < L') →
      wpS (model prog w) (A.deeper (envOf qual scope L' f cdv)) (execs body (envOf qual scope L' f cdv))
        (fun fl s' => LeaveK h₀ L m g (RS Q) (match fl with | .ret v => v | _ => .none) s') { s with heap := h₁, toks := s.toks + binds.length })
    (hco : scope.isCoroutine = false) (hgen : scope.isGenerator = false) (hk : scope.kind = .function)
    (hcell : ∀ x ∈ scope.names, x.2 ≠ .cell) : codeS (model prog w) A (.call (.ref f) args) Q s := by
  have X := X₀.keeps F.keep
  obtain ⟨FG, BG, st, lv⟩ := groundX (R := RS Q) B F N hA hf hke
  refine codeS_call_function hroom (X _ _ ho) rfl hco hgen rfl (codeRec_of X hcd) (wpS_any (hbind _ _ _ _ ?_))
  refine wpS_any (wpAny_newFunctionEnv hcell hloc (fun h₁ hns hsb => ⟨(T.nolimit.keeps F.keep).fresh _ hsb, codeS_func ?_⟩) hk)
  have hk₁ : ∀ b o, s.heap.get? b = some o → h₁.get? b = some o := fun b o e => hsb.extBut b o (Nat.ne_of_lt (Heap.lt_size e)) (Heap.get?_push_of_some _ e)
  exact wpS_mono (h _ s.heap.objs.size h₁ FG ⟨hns, fun b o e => hk₁ b o (of_hideAll _ e), Nat.le_of_eq (hideAll_size _ _)⟩
    (fun p hp => ⟨hk₁ _ _ (N p hp).1, Nat.ne_of_lt (Heap.lt_size (N p hp).1), hideAll_none _ (List.mem_map_of_mem hp)⟩) BG (X₀.keeps st) (T.keeps st) (fun p hp => Heap.lt_size (N p hp).1)) (fun fl s' hl => RS.ret (lv _ _ hl))
theorem code_defCS {Q : Flow → Shared → Prop} {name qual : Str} {params : Arguments} {body : List Stmt} {scope : Scope} {dV kV doc pm cdv ct oc : Value} {an od : Option Addr} {osl : Array (Option Value)} {f : Addr} {args : Args} {binds : List (Str × Value)}
    (B : Below A₀ base outer h₀) (F : Fr h₀ L s.heap m) (X₀ : K.In h₀) (N : News h₀ L s.heap news) (T : Top p loose mean mg mb h₀) (hA : A.frames = some (env :: outer)) (hf : env.frame = some L) (hke : env.scope.kind = .function)
    (ho : K.lookup f = some ⟨oc, od, .func (fnOf name qual params body scope dV kV doc pm an cdv ct), osl⟩) (hcd : codeIn K cdv qual = true) (hroom : A.depth < recursionLimit)
    (hbind : BindsTo s (fnOf name qual params body scope dV kV doc pm an cdv ct) args binds)
    (hkind : ∀ n, ∀ x ∈ binds, scope.names.lookup x.1 = some .local ∨ (scope.names.lookup x.1 = some .cell ∧ ((cellsFrom n scope.names []).lookup x.1).isSome = true))
    (hnd : ((cellsFrom 0 scope.names []).map (·.1)).Nodup)
    (h : ∀ g L' h₁ tk cells, Fr h₀ L g m → Fr g L' h₁ (bindL (envOfC qual scope L' f cdv).kindOf binds fun _ => none) → News g L' h₁ (cells ++ news) →
      CellsAre (bindC (envOfC qual scope L' f cdv).kindOf binds fun _ => none) (cellsFrom (L' + 1) scope.names []) cells → Below A base (env :: outer) g → K.In g → Top p loose mean mg mb g → (∀ p ∈ news, p.1 < L') →
      wpS (model prog w) (A.deeper (envOfC qual scope L' f cdv)) (execs body (envOfC qual scope L' f cdv))
        (fun fl s' => LeaveK h₀ L m g (RS Q) (match fl with | .ret v => v | _ => .none) s') { s with heap := h₁, toks := tk })
    (hco : scope.isCoroutine = false) (hgen : scope.isGenerator = false) (hk : scope.kind = .function) : codeS (model prog w) A (.call (.ref f) args) Q s := by
  have X := X₀.keeps F.keep
  obtain ⟨FG, BG, st, lv⟩ := groundX (R := RS Q) B F N hA hf hke
  refine codeS_call_function hroom (X _ _ ho) rfl hco hgen rfl (codeRec_of X hcd) (wpS_any (hbind _ _ _ _ ?_))
  refine wpS_any (wpAny_newFunctionEnv_cells hk (hkind _) fun env' he s' x => ?_)
  subst he
  refine ⟨(T.nolimit.keeps F.keep).keeps x.toInCall.keep, codeS_func ?_⟩
  obtain ⟨h₁, tk, rfl, _⟩ := x.done
  have hk₁ := x.toInCall.keep
  obtain ⟨cells, NC, Y⟩ := Cl.news (h₀ := s.heap) (Nat.le_refl _) fun n c hm => ⟨x.cell n c (lookup_of_mem_nodup (cellsFrom_names scope.names 0 (s.heap.objs.size + 1) [] [] rfl ▸ hnd) hm), x.above n c hm⟩
  refine wpS_mono (h _ s.heap.objs.size h₁ tk cells FG ⟨x.toInCall.ns, fun b o e => hk₁ b o (of_hideAll _ e), Nat.le_of_eq (hideAll_size _ _)⟩ (fun p hp => ?_) Y BG (X₀.keeps st) (T.keeps st) (fun p hp => Heap.lt_size (N p hp).1)) (fun fl s' hl => RS.ret (lv _ _ hl))
  rcases List.mem_append.mp hp with hp | hp
  · refine ⟨(NC p hp).1, (NC p hp).2.1, ?_⟩
    cases q : (hideAll s.heap (news.map (·.1))).get? p.1 with
    | none => rfl
    | some o => have := of_hideAll _ q; rw [(NC p hp).2.2] at this; cases this
  · exact ⟨hk₁ _ _ (N p hp).1, Nat.ne_of_lt (Heap.lt_size (N p hp).1), hideAll_none _ (List.mem_map_of_mem hp)⟩
end
end Mine

end
section
theorem Mine.resetB1 : True := by
  w_top off
  trivial
open PySem PySem.W PyProof.Rows PySem.Calls
open Sem (wp)
set_option Elab.async false
set_option maxRecDepth 100000
set_option maxHeartbeats 4000000
set_option linter.unusedVariables false
namespace Mine
theorem ba_mro : mroOf (.type "bytearray") = pure [.type "bytearray", .type "object"] := by rw [mroOf_type]; kernel_rfl
theorem ba_lookup_new : typeLookup (.type "bytearray") "__new__" = pure (some (.builtin "bytearray.__new__")) := by rw [typeLookup_type, builtinLookup_eq_fast]; kernel_rfl
theorem ba_slot_init : Slot "bytearray" "__init__" "bytearray.__init__" :=
  .of (owner := "bytearray") (n := "__init__") (by rw [typeLookup_type, builtinLookup_eq_fast]; kernel_rfl) (by decide +kernel) (by decide +kernel) (by decide +kernel)
    (by first | exact .inl (by decide +kernel) | exact .inr (by decide +kernel)) (by rw [isSubtype_type]; kernel_rfl)
theorem ba_slot_set : Slot "bytearray" "__setitem__" "bytearray.__setitem__" :=
  .of (owner := "bytearray") (n := "__setitem__") (by rw [typeLookup_type, builtinLookup_eq_fast]; kernel_rfl) (by decide +kernel) (by decide +kernel) (by decide +kernel)
    (by first | exact .inl (by decide +kernel) | exact .inr (by decide +kernel)) (by rw [isSubtype_type]; kernel_rfl)
theorem ba_made : Bind.madeBy (.type "bytearray") = pure (some "bytearray.__new__") := madeBy_type ba_mro ba_lookup_new (by decide +kernel)
theorem ba_sub : isSubtype (.type "bytearray") (.type "bytearray") = pure true := by rw [isSubtype_type]; kernel_rfl
theorem ba_typeCall (a : Value) : checkTypeCall "bytearray" ⟨[a], []⟩ = pure () := by kernel_rfl
theorem ba_newCall (a : Value) : checkBuiltinCall "bytearray.__new__" ⟨[.type "bytearray", a], []⟩ = pure () := by kernel_rfl
theorem ba_plain_new : plainId "bytearray.__new__" = true := by decide +kernel
theorem ba_plain_init : plainId "bytearray.__init__" = true := by decide +kernel
theorem ba_entry_new : entryFor table "bytearray.__new__" = some Builtin.«list.__new__» := entryFor_alias (id' := "list.__new__") (by rw [fastTable_eq_tree]; kernel_rfl) rfl (by decide +kernel) (by rw [fastTable_eq_tree]; kernel_rfl)
theorem ba_entry_init : entryFor table "bytearray.__init__" = some Builtin.«bytearray.__init__» := entryFor_of_tree (by kernel_rfl)
theorem ba_entry_set : entryFor table "bytearray.__setitem__" = some Builtin.«bytearray.__setitem__» := entryFor_of_tree (by kernel_rfl)
theorem ba_args_init (a b : Value) : argsOk "bytearray.__init__" ⟨[a, b], []⟩ := by unfold argsOk; kernel_rfl
theorem ba_args_set (a b c : Value) : argsOk "bytearray.__setitem__" ⟨[a, b, c], []⟩ := by unfold argsOk; kernel_rfl
theorem ba_bind (v : Value) : Builtin.Bytes.bindOptional "bytearray.__init__" "bytearray" ["source", "encoding", "errors"] [v] [] = pure [some v, none, none] := by kernel_rfl
theorem ba_release : typeLookup (.type "bytearray") "__release_buffer__" = pure (some (.builtin "bytearray.__release_buffer__")) := by rw [typeLookup_type, builtinLookup_eq_fast]; kernel_rfl
theorem ba_buffer : typeLookup (.type "bytearray") "__buffer__" = pure (some (.builtin "bytearray.__buffer__")) := by rw [typeLookup_type, builtinLookup_eq_fast]; kernel_rfl
theorem ba_no_bytes : typeLookup (.type "bytearray") "__bytes__" = pure none := by rw [typeLookup_type, builtinLookup_eq_fast]; kernel_rfl
theorem ba_no_index : typeLookup (.type "bytearray") "__index__" = pure none := by rw [typeLookup_type, builtinLookup_eq_fast]; kernel_rfl
theorem int_index : typeLookup (.type "int") "__index__" = pure (some (.builtin "int.__index__")) := by rw [typeLookup_type, builtinLookup_eq_fast]; kernel_rfl
set_option maxHeartbeats 8000000 in
theorem ba_owner : ("bytearray.__new__".splitOn ".__new__").headD "" = "bytearray" := by simp +decide [String.splitOn, String.splitOnAux]
noncomputable abbrev baObj (b : Array UInt8) : Obj := { cls := .type "bytearray", data := .bytearray b }
section
variable {prog : Program} {w : World} {A : Around} {E : Value → Shared → Prop} {s : Shared}
theorem code_ba_new (a : Value) {Q₁ : Value → Shared → Prop}
    (h : Q₁ (.ref s.heap.objs.size) { s with heap := s.heap.push (baObj #[]) }) :
    codeAny (model prog w) A (.call (.builtin "bytearray.__new__") ⟨[.type "bytearray", a], []⟩) (wants Q₁ E) s := by
  refine codeAny_of_tree ?_
  show wpAny _ A.in1 (do checkBuiltinCall "bytearray.__new__" ⟨[.type "bytearray", a], []⟩; again (.builtin "bytearray.__new__" ⟨[.type "bytearray", a], []⟩)) _ _ s
  refine wpAny_bind (wpAny_of_eq (ba_newCall a) (wpAny_pure ⟨plainId_quiet ba_plain_new _, codeAny_builtin_stack ba_entry_new rfl fun p st => ?_⟩))
  rw [Around.under_plainId ba_plain_new _]
  have hsub := ba_sub
  have hown := ba_owner
  obtain ⟨hp, g, d, tk, os⟩ := s
  simp only [hown]
  wp_walk
  exact h
end
end Mine

end
section
theorem Mine.resetB2 : True := by
  w_top off
  trivial
open PySem PySem.W PyProof.Rows PySem.Calls
open Sem (wp)
set_option Elab.async false
set_option maxRecDepth 100000
set_option maxHeartbeats 4000000
set_option linter.unusedVariables false
namespace Mine
theorem any_clean {f : Code × Pos → Bool} (hf : ∀ c p, Cl c → f (c, p) = false) : ∀ {l : List (Code × Pos)}, OkS l → l.any f = false
  | [], _ => rfl
  | (c, p) :: l, h => by
    rw [List.any_cons, hf c p (h _ (.head _)), any_clean hf (fun x hx => h x (.tail _ hx))]; rfl
theorem bad_of {id : String} (h : badIds.contains id = false) : Builtin.Bytes.decodersThatHold.contains id = false ∧ id ≠ "bytearray.__contains__" ∧ id ≠ "bytearray.__mod__" ∧ id ≠ "bytearray.__rmod__" ∧ id ≠ "_struct.pack_into.held" ∧ id ≠ "bytearray.find.held" := by
  unfold badIds at h
  simp only [List.contains_eq_mem, List.mem_append, decide_eq_false_iff_not, List.mem_cons, not_or] at h ⊢
  exact ⟨h.1, h.2.1, h.2.2.1, h.2.2.2.1, h.2.2.2.2.1, h.2.2.2.2.2.1⟩
section
variable {M : Model} {A : Around} {s : Shared}
theorem wpS_exported {self : Value} {Q : Bool → Shared → Prop} (h : Q false s) : wpS M A (Builtin.Bytes.exported self) Q s := fun Γ p hΓ hc hb => by
  unfold Builtin.Bytes.exported
  show Q (((Γ.code, p) :: Γ.below).any _) s
  rw [any_clean]
  · exact h
  · intro c p hcl
    cases c with
    | builtin id args =>
      obtain ⟨h0, h1, h2, h3, h4, h5⟩ := bad_of hcl
      obtain ⟨pos, kw⟩ := args
      show Builtin.Bytes.exported.match_1 (fun _ => Bool) (Code.builtin id ⟨pos, kw⟩, p) _ _ _ _ _ _ _ = false
      unfold Builtin.Bytes.exported.match_1
      dsimp only
      show dite _ _ _ = false
      rw [dif_neg h1, dif_neg h2, dif_neg h3, dif_neg h4, dif_neg h5]
      cases pos with
      | nil => rfl
      | cons v l =>
        show (Builtin.Bytes.sameRef v self && Builtin.Bytes.decodersThatHold.contains id) = false
        rw [h0, Bool.and_false]
    | _ => rfl
  · intro x hx
    rcases List.mem_cons.mp hx with rfl | hx
    · exact hc
    · exact hb x hx
theorem wpS_ifF {α : Type} {c : Bool} {a b : Sem α} {Q : α → Shared → Prop} (hc : c = false) (h : wpS M A b Q s) : wpS M A (if c = true then a else b) Q s := by
  subst hc
  exact h
theorem wpS_ifT {α : Type} {c : Bool} {a b : Sem α} {Q : α → Shared → Prop} (hc : c = true) (h : wpS M A a Q s) : wpS M A (if c = true then a else b) Q s := by
  subst hc
  exact h
end
section
variable {prog : Program} {w : World} {A : Around} {E : Value → Shared → Prop} {s : Shared}
theorem codeS_entry {id : String} {args : Args} {b : Builtin} {Q : Flow → Shared → Prop} (hcl : badIds.contains id = false) (hb : entryFor table id = some b) (h : wpS (model prog w) (A.under (.builtin id args)) (b args) (finS (model prog w) A Q) s) :
    codeS (model prog w) A (.builtin id args) Q s := by
  refine codeS_of_tree hcl ?_
  show wpS _ _ (match entryFor table id with | some b => b args | none => unsupported ((withoutEnding? id "#data").getD id)) _ s
  rw [hb]
  exact h
theorem codeS_callB {id : String} {args : Args} {Q : Flow → Shared → Prop} (h : wpS (model prog w) (A.under (.call (.builtin id) args)) (do checkBuiltinCall id args; again (.builtin id args)) (finS (model prog w) A Q) s) :
    codeS (model prog w) A (.call (.builtin id) args) Q s := codeS_of_tree trivial h
theorem codeS_callT {T : String} {v : Value} {Q : Flow → Shared → Prop} (h : wpS (model prog w) (A.under (.call (.type T) ⟨[v], []⟩)) (callAny (.type T) ⟨[v], []⟩) (finS (model prog w) A Q) s) :
    codeS (model prog w) A (.call (.type T) ⟨[v], []⟩) Q s := codeS_of_tree trivial h
theorem callAny_T {T : String} {v : Value} : callAny (.type T) ⟨[v], []⟩ = pure (.again (.builtin "type.__call__" ⟨[.type T, v], []⟩)) := rfl
theorem ba_get {S : Addr} {b b' : Array UInt8} {h : Heap} (hS : h.get? S = some (baObj b)) (f : Array UInt8 → Array UInt8) (hf : f b = b') : (h.update S (Obj.mapBytearray f)).get? S = some (baObj b') := by
  subst hf
  exact Heap.get?_update_self (Obj.mapBytearray f) hS rfl
theorem ba_write {S : Addr} {b b' : Array UInt8} {f : Array UInt8 → Array UInt8} {Q : Unit → Shared → Prop} (hS : s.heap.get? S = some (baObj b)) (hf : f b = b') (hz : b'.size ≤ sizeLine)
    (h : ∀ h', h'.get? S = some (baObj b') → Heap.SameBut S s.heap h' → Q () { s with heap := h' }) : wpAny (model prog w) A (Builtin.Bytes.write (.ref S) f) Q E s := by
  show wpAny _ _ (updateBytearray S f) _ _ _
  unfold updateBytearray
  refine wpAny_bind (wpAny_load hS ?_)
  show wpAny _ _ (update S (Obj.mapBytearray f) >>= fun _ => lookBehind S) _ _ _
  refine wpAny_bind (wpAny_update hS ?_)
  refine wpAny_lookBehind (ba_get hS f hf) ?_ (h _ (ba_get hS f hf) (Heap.SameBut.update ..))
  show (if b'.size > sizeLine then some "bytearray:memory" else none) = none
  rw [if_neg (by omega)]
theorem ba_ownRelease {S : Addr} {Q : Bool → Shared → Prop} (hT : s.TypeIs (.ref S) "bytearray") (h : Q false s) : wpAny (model prog w) A (Builtin.Bytes.ownRelease (.ref S)) Q E s := by
  unfold Builtin.Bytes.ownRelease Builtin.Bytes.slotIsOwn
  refine wpAny_bind (wpAny_bind (wpAny_specialOf hT ba_release ?_))
  dsimp only
  have e1 : (!("bytearray.__release_buffer__".endsWith ("." ++ "__release_buffer__"))) = false := by decide +kernel
  have e2 : ("bytearray.__release_buffer__".dropRight ("__release_buffer__".length + 1)) = "bytearray" := by decide +kernel
  rw [e1, e2]
  show wpAny _ _ (isInstance (.ref S) (.type "bytearray")) _ _ _
  exact wpAny_isInstance hT ba_sub (wpAny_pure h)
theorem code_ba_init {S : Addr} {n : Nat} {t : Tok} {Q : Flow → Shared → Prop} (hS : s.heap.get? S = some (baObj #[])) (hn : n < 1000)
    (h : ∀ h', h'.get? S = some (baObj (Array.replicate n 0)) → Heap.SameBut S s.heap h' → Q (.ret .none) { s with heap := h' }) :
    codeS (model prog w) A (.call (.builtin "bytearray.__init__") ⟨[.ref S, .int (n : Int) t], []⟩) Q s := by
  have hT : s.TypeIs (.ref S) "bytearray" := ⟨_, hS, rfl⟩
  refine codeS_callB ?_
  refine wpS_bind (wpS_any (ba_slot_init.check _ _ _ _ _ _ _ _ hT (ba_args_init _ _) ?_))
  refine wpS_pure ⟨plainId_quiet ba_plain_init _, codeS_entry (by decide +kernel) ba_entry_init ?_⟩
  rw [Around.under_plainId ba_plain_init _]
  unfold Builtin.«bytearray.__init__»
  dsimp only
  refine wpS_bind (wpS_any (ba_ownRelease hT ?_))
  refine wpS_ifF rfl ?_
  refine wpS_bind (wpS_of_eq (ba_bind _) ?_)
  dsimp only
  refine wpS_bind (wpS_of_eq (a := ()) rfl ?_)
  refine wpS_bind (wpS_of_eq (a := ()) rfl ?_)
  refine wpS_bind ?_
  unfold orM
  refine wpS_bind (wpS_exported ?_)
  dsimp only [toBool]
  show wpS _ _ (Builtin.Bytes.exportsOf (Value.ref S) >>= fun r => pure (decide (r > 0))) _ s
  refine wpS_bind (wpS_any ?_)
  show wpAny _ _ (load S >>= _) _ _ s
  refine wpAny_bind (wpAny_load hS ?_)
  refine wpAny_pure (wpS_pure ?_)
  refine wpS_ifF rfl ?_
  refine wpS_bind (wpS_any (ba_write hS (b' := #[]) rfl (Nat.zero_le _) fun h₁ hS₁ hs₁ => ?_))
  have easS : asStr? (.int (n : Int) t) = pure none := rfl
  refine wpS_bind ?_
  rw [easS]
  refine wpS_pure ?_
  simp only [Option.isSome_none, Bool.false_eq_true, if_false, pure_bind]
  refine wpS_bind ?_
  refine wpS_any ?_
  generalize hR : (fun (a : Option Value) (s' : Shared) => wpS (model prog w) A.in1 _ (finS (model prog w) A Q) s') = R9
  refine wpAny_specialOf (typeIs_int _ _ _) int_index ?_
  subst hR
  simp only [Option.isSome_some, if_true]
  have eidx : (asIndex (.int (n : Int) t)).attempt = pure (.ok (n : Int)) := rfl
  rw [eidx]
  simp only [pure_bind]
  have f1 : Builtin.Bytes.fitsIndex (n : Int) = true := by
    unfold Builtin.Bytes.fitsIndex
    simp only [Bool.and_eq_true, decide_eq_true_eq]
    omega
  have f2 : ¬ ((n : Int) < 0) := by omega
  have f3 : ((n : Int) == 2 ^ 63 - 1) = false := by
    rw [beq_eq_false_iff_ne]; omega
  have f4 : Builtin.Bytes.tooLong (n : Int).toNat = false := by
    unfold Builtin.Bytes.tooLong
    rw [decide_eq_false_iff_not, sizeLine_eq]; omega
  simp only [f1, Bool.not_true, Bool.false_eq_true, if_false, if_neg f2, f3, f4]
  refine wpS_bind (wpS_any (wpAny_rule ?_))
  by_cases h0 : (n : Int) > 0
  · rw [if_pos h0]
    refine wpS_bind (wpS_any (ba_write hS₁ (b' := Array.replicate n 0) (by rw [Int.toNat_natCast]) (by rw [Array.size_replicate, sizeLine_eq]; omega) fun h₂ hS₂ hs₂ => ?_))
    exact wpS_pure (h h₂ hS₂ (hs₁.trans hs₂))
  · rw [if_neg h0]
    have e0 : n = 0 := by omega
    subst e0
    exact wpS_pure (h h₁ hS₁ hs₁)
theorem call_ba {n : Nat} {t : Tok} {Q : Value → Shared → Prop} (hn : n < 1000)
    (h : ∀ h', h'.get? s.heap.objs.size = some (baObj (Array.replicate n 0)) → (∀ b o, s.heap.get? b = some o → h'.get? b = some o) → Q (.ref s.heap.objs.size) { s with heap := h' }) :
    wpS (model prog w) A (call (.type "bytearray") [.int (n : Int) t]) Q s := by
  refine wpS_call (codeS_callT ?_)
  rw [callAny_T]
  refine wpS_pure ⟨Code.quiet_builtin _ (by decide +kernel), codeS_entry (by decide +kernel) F.entry_type_call ?_⟩
  rw [Around.under_plain (weight_type_call_type "bytearray" [.int (n : Int) t] []) rfl]
  have h1 : (Value.type "bytearray" == Value.type "type") = false := by decide
  have h2 : ((Manifest.find? "bytearray").bind (·.mro.findSome? fun t => (Manifest.find? t).bind fun b => if b.noNew then some true else if b.attrs.any (·.1 == "__new__") then some false else none)).getD false = false := by decide +kernel
  have h3 := ba_typeCall (.int (n : Int) t)
  have h4 := ba_mro
  have h5 := ba_made
  unfold Builtin.«type.__call__»
  simp only [h1, h2, h3, h4, h5, pure_bind, Bool.false_eq_true, if_false, List.isEmpty_cons]
  refine wpS_bind (wpS_holding (wpS_any (wpAny_call (codeAny_mono (code_ba_new (E := fun _ _ => False) (Q₁ := fun v s' => v = .ref s.heap.objs.size ∧ s' = { s with heap := s.heap.push (baObj #[]) }) (.int (n : Int) t) ⟨rfl, rfl⟩) ?_))))
  intro r s' hr
  cases r with
  | error e => exact hr
  | ok fl =>
    cases fl with
    | ret v =>
      obtain ⟨rfl, rfl⟩ := hr
      have hS : (s.heap.push (baObj #[])).get? s.heap.objs.size = some (baObj #[]) := Heap.get?_push_size _ rfl
      have hT : ({ s with heap := s.heap.push (baObj #[]) } : Shared).TypeIs (.ref s.heap.objs.size) "bytearray" := ⟨_, hS, rfl⟩
      dsimp only
      refine wpS_bind (wpS_any (wpAny_isInstance hT ba_sub ?_))
      refine wpS_ifF rfl ?_
      refine wpS_bind (wpS_holding ?_)
      simp only [callSpecial?]
      refine wpS_bind (wpS_any (wpAny_specialOf hT ba_slot_init.lookup ?_))
      simp only [ba_slot_init.bind]
      refine wpS_holding (wpS_bind (wpS_pure (wpS_bind (wpS_call (code_ba_init hS hn ?_)))))
      intro h' hS' hs'
      refine ⟨_, rfl, wpS_pure ?_⟩
      dsimp only
      refine wpS_ifF rfl ?_
      refine wpS_pure ⟨_, rfl, ?_⟩
      exact h h' hS' fun b o e => hs'.extBut b o (Nat.ne_of_lt (Heap.lt_size e)) (Heap.get?_push_of_some _ e)
    | _ => exact hr
end
end Mine

end
section
theorem Mine.resetB3 : True := by
  w_top off
  trivial
open PySem PySem.W PyProof.Rows PySem.Calls
open Sem (wp)
set_option Elab.async false
set_option maxRecDepth 100000
set_option maxHeartbeats 4000000
set_option linter.unusedVariables false
namespace Mine
section
variable {prog : Program} {w : World} {A : Around} {E : Value → Shared → Prop} {s : Shared} {h₀ : Heap} {L : Addr} {m : Str → Option Value} {news news' : List (Addr × Obj)}
theorem payload_ba {S : Addr} {b : Array UInt8} {Q : Array UInt8 → Shared → Prop} (hS : s.heap.get? S = some (baObj b)) (h : Q b s) : wpAny (model prog w) A (Builtin.Bytes.payload (.ref S)) Q E s := by
  unfold Builtin.Bytes.payload Builtin.Bytes.payload?
  refine wpAny_bind (wpAny_bind (wpAny_load hS ?_))
  exact wpAny_pure (wpAny_pure h)
theorem ba_setItem {S : Addr} {b : Array UInt8} {k v : Nat} {t t2 : Tok} {Q : Unit → Shared → Prop} (hS : s.heap.get? S = some (baObj b)) (hk : k < b.size) (hb : b.size < 1000) (hv : v < 256)
    (h : ∀ h', h'.get? S = some (baObj (b.setIfInBounds k v.toUInt8)) → Heap.SameBut S s.heap h' → Q () { s with heap := h' }) :
    wpAny (model prog w) A (setItem (.ref S) (.int (k : Int) t) (.int (v : Int) t2)) Q E s := by
  have hT : s.TypeIs (.ref S) "bytearray" := ⟨_, hS, rfl⟩
  unfold setItem
  try with_reducible refine wpAny_holding ?_
  first | refine wpAny_bind (wpAny_pure ?_) | skip
  refine wpAny_bind (wpAny_sequenceKey hT (by decide) ?_)
  refine wpAny_bind (wpAny_callSpecial?_slot (name := Str.ofString "__setitem__") hT ba_slot_set
    (wpAny_call_entry ba_slot_set hT ba_entry_set ?_ (ba_args_set _ _ _)))
  unfold Builtin.«bytearray.__setitem__»
  dsimp only
  have e0 : (!(([] : List (Str × Value)).isEmpty)) = false := rfl
  simp only [e0, Bool.false_eq_true, if_false]
  have e1 : Builtin.Bytes.subscript? (.int (k : Int) t) = pure (some (k : Int)) := by
    unfold Builtin.Bytes.subscript?
    have f0 : specialOf (.int (k : Int) t) (Str.ofString "__index__") = pure (some (.builtin "int.__index__")) := by
      have : typeOf (.int (k : Int) t) = pure (.type "int") := rfl
      simp only [specialOf, this, pure_bind]
      exact int_index
    have f1 : asIndex (.int (k : Int) t) = pure (k : Int) := rfl
    have f2 : Builtin.Bytes.fitsIndex (k : Int) = true := by
      unfold Builtin.Bytes.fitsIndex
      simp only [Bool.and_eq_true, decide_eq_true_eq]
      omega
    simp only [f0, f1, f2, pure_bind, Option.isNone_some, Bool.false_eq_true, if_false, Bool.not_true]
  have e2 : Builtin.Bytes.byteValue (.int (v : Int) t2) = pure v.toUInt8 := by
    unfold Builtin.Bytes.byteValue
    have f1 : asIndex (.int (v : Int) t2) = pure (v : Int) := rfl
    have f3 : (decide ((v : Int) < 0) || decide ((v : Int) ≥ 256)) = false := by
      simp only [Bool.or_eq_false_iff, decide_eq_false_iff_not]; omega
    simp only [f1, f3, pure_bind, Bool.false_eq_true, if_false, Int.toNat_natCast]
  have e3 : seqIndex? (k : Int) b.size = some k := by
    have a0 : ¬ ((k : Int) < 0) := by omega
    have a1 : (decide (0 ≤ (k : Int)) && decide ((k : Int) < (b.size : Int))) = true := by
      simp only [Bool.and_eq_true, decide_eq_true_eq]; omega
    unfold seqIndex?
    simp only [if_neg a0, a1, if_true, Int.toNat_natCast]
  simp only [e1, e2, pure_bind]
  refine wpAny_bind (payload_ba hS ?_)
  rw [e3]
  dsimp only
  refine wpAny_bind (ba_write hS rfl (by rw [Array.size_setIfInBounds, sizeLine_eq]; omega) fun h' hS' hs' => ?_)
  exact wpAny_pure ⟨.none, rfl, wpAny_pure (h h' hS' hs')⟩
end
end Mine

end
section
theorem Mine.resetB4 : True := by
  w_top off
  trivial
open PySem PySem.W PyProof.Rows PySem.Calls
open Sem (wp)
set_option Elab.async false
set_option maxRecDepth 100000
set_option maxHeartbeats 4000000
set_option linter.unusedVariables false
namespace Mine
section
variable {prog : Program} {w : World} {A : Around} {E : Value → Shared → Prop} {s : Shared} {h₀ : Heap} {L : Addr} {m : Str → Option Value} {news news' : List (Addr × Obj)}
theorem code_bytes_ba {S : Addr} {b : Array UInt8} {Q : Value → Shared → Prop} (hS : s.heap.get? S = some (baObj b)) (hz : b.size < 1000) (hQ : ∀ t k, Q (.bytes b t) { s with toks := k }) :
    codeAny (model prog w) A (.call (.builtin "bytes.__new__") ⟨[.type "bytes", .ref S], []⟩) (wants Q E) s := by
  refine codeAny_of_tree ?_
  show wpAny _ A.in1 (do checkBuiltinCall "bytes.__new__" ⟨[.type "bytes", .ref S], []⟩; again (.builtin "bytes.__new__" ⟨[.type "bytes", .ref S], []⟩)) _ _ s
  refine wpAny_bind (wpAny_of_eq (F.bm_newCall _) (wpAny_pure ⟨plainId_quiet F.bm_plain _, codeAny_builtin F.bm_entry ?_⟩))
  rw [Around.under_plainId F.bm_plain _]
  have hT : s.TypeIs (.ref S) "bytearray" := ⟨_, hS, rfl⟩
  unfold Builtin.«bytes.__new__»
  refine wpAny_bind (wpAny_of_eq (a := true) rfl ?_)
  refine bm_if_false rfl ?_
  refine wpAny_bind (wpAny_of_eq F.bm_sub ?_)
  refine bm_if_false rfl ?_
  refine wpAny_bind (wpAny_of_eq (F.bm_bind _) ?_)
  refine wpAny_bind (wpAny_of_eq (a := ()) rfl ?_)
  refine wpAny_bind (wpAny_of_eq (a := ()) rfl ?_)
  refine bm_if_false rfl ?_
  refine wpAny_bind (wpAny_specialOf hT ba_no_bytes ?_)
  refine wpAny_bind (wpAny_bind ?_)
  show wpAny _ _ (load S >>= _) _ _ _
  refine wpAny_bind (wpAny_load hS ?_)
  refine wpAny_pure (wpAny_pure ?_)
  refine bm_if_false rfl ?_
  refine wpAny_bind (wpAny_specialOf hT ba_no_index ?_)
  refine bm_if_true rfl ?_
  first
    | show wpAny _ _ (Builtin.Bytes.buffer? "bytes.__new__" (.ref S) true >>= _) _ _ _
    | (refine wpAny_bind ?_; show wpAny _ _ (Builtin.Bytes.buffer? "bytes.__new__" (.ref S) true >>= _) _ _ _)
  refine wpAny_bind ?_
  unfold Builtin.Bytes.buffer?
  refine wpAny_bind (wpAny_specialOf hT ba_buffer ?_)
  try dsimp only
  refine wpAny_bind ?_
  unfold Builtin.Bytes.slotIsOwn
  refine wpAny_bind (wpAny_specialOf hT ba_buffer ?_)
  try dsimp only
  have e1 : (!("bytearray.__buffer__".endsWith ("." ++ "__buffer__"))) = false := by decide +kernel
  have e2 : ("bytearray.__buffer__".dropRight ("__buffer__".length + 1)) = "bytearray" := by decide +kernel
  rw [e1, e2]
  refine bm_if_false rfl ?_
  refine wpAny_isInstance hT ba_sub ?_
  refine bm_if_false rfl ?_
  refine wpAny_bind (wpAny_specialOf hT ba_buffer ?_)
  try dsimp only
  refine wpAny_bind (ba_ownRelease hT ?_)
  refine bm_if_false rfl ?_
  refine wpAny_bind (payload_ba hS ?_)
  refine wpAny_pure ?_
  try dsimp only
  refine wpAny_bind (wpAny_rule ?_)
  refine wpAny_bind (wpAny_mkBytes ?_ (by rw [sizeLine_eq]; omega))
  show wpAny _ _ (if (Value.type "bytes" == Value.type "bytes") = true then _ else _) _ _ _
  refine bm_if_true (by decide) ?_
  first
    | exact wpAny_pure (hQ _ _)
    | exact wpAny_bind (wpAny_pure (wpAny_pure (hQ _ _)))
theorem call_bytes_ba {S : Addr} {b : Array UInt8} {Q : Value → Shared → Prop} (hS : s.heap.get? S = some (baObj b)) (hz : b.size < 1000) (hQ : ∀ t k, Q (.bytes b t) { s with toks := k }) : wpAny (model prog w) A (call (.type "bytes") [.ref S]) Q E s := by
  refine callType_codes (Q₁ := fun obj s₁ => s₁.TypeIs obj "bytes" ∧ Q obj s₁) F.bm_called (F.bm_typeCall _) F.entry_object_init
    (code_bytes_ba hS hz fun t k => ⟨PySem.W.typeIs_bytes _ _ _, hQ t k⟩) fun obj s₁ h₁ => ?_
  exact ⟨h₁.1, F.args_object_init_2 obj _, object_init_meets F.bm_called.init.lookup F.bm_called.made (by decide) prog w A.in1 _ s₁ ⟨h₁.1, rfl, h₁.2⟩⟩
/-- the ledger's forms -/
theorem bytes_K {S : Addr} {b : Array UInt8} {Q : Value → Shared → Prop} (N : News h₀ L s.heap news) (hm : (S, baObj b) ∈ news) (hz : b.size < 1000) (hQ : ∀ t k, Q (.bytes b t) { s with toks := k }) :
    wpAny (model prog w) A (call (.type "bytes") [.ref S]) Q E s := call_bytes_ba (N.get hm) hz hQ
theorem setItem_BA {S : Addr} {b : Array UInt8} {k v : Nat} {t t2 : Tok} {Q : Unit → Shared → Prop} (F : Fr h₀ L s.heap m) (N : News h₀ L s.heap news) (U : Upd S (baObj b) (baObj (b.setIfInBounds k v.toUInt8)) news news') (hk : k < b.size) (hb : b.size < 1000) (hv : v < 256)
    (h : ∀ h', Fr h₀ L h' m → News h₀ L h' news' → Q () { s with heap := h' }) : wpAny (model prog w) A (setItem (.ref S) (.int (k : Int) t) (.int (v : Int) t2)) Q E s := by
  obtain ⟨pre, post, rfl, rfl, a, c⟩ := U.split
  have mp : (S, baObj b) ∈ pre ++ (S, baObj b) :: post := List.mem_append.mpr (.inr (.head _))
  refine ba_setItem (N.get mp) hk hb hv fun h' hS' hs' => h h' (F.change hs' (N _ mp).2.1 (N _ mp).2.2) fun p hp => ?_
  rcases List.mem_append.mp hp with hp | hp
  · exact ⟨hs'.extBut _ _ (a p hp) (N p (List.mem_append.mpr (.inl hp))).1, (N p (List.mem_append.mpr (.inl hp))).2⟩
  · rcases List.mem_cons.mp hp with rfl | hp
    · exact ⟨hS', (N _ mp).2⟩
    · exact ⟨hs'.extBut _ _ (c p hp) (N p (List.mem_append.mpr (.inr (.tail _ hp)))).1, (N p (List.mem_append.mpr (.inr (.tail _ hp)))).2⟩
theorem ba_K {n : Nat} {t : Tok} {Q : Value → Shared → Prop} (F : Fr h₀ L s.heap m) (N : News h₀ L s.heap news) (hn : n < 1000)
    (h : ∀ S h', Fr h₀ L h' m → News h₀ L h' ((S, baObj (Array.replicate n 0)) :: news) → (∀ p ∈ news, p.1 < S) → Q (.ref S) { s with heap := h' }) :
    wpS (model prog w) A (call (.type "bytearray") [.int (n : Int) t]) Q s := by
  refine call_ba hn fun h' hS hk => ?_
  have hL : @LT.lt Nat _ L s.heap.objs.size := F.ns.lt
  have h0 : h₀.get? s.heap.objs.size = none := Heap.get?_none_of_le (Nat.le_trans F.above (Nat.le_of_lt hL))
  refine h s.heap.objs.size h' ⟨F.ns.at' fun o e => hk _ o e, fun b o e => hk b o (F.keep b o e), F.above⟩ (fun p hp => ?_) fun p hp => Heap.lt_size (N p hp).1
  rcases List.mem_cons.mp hp with rfl | hp
  · exact ⟨hS, (Nat.ne_of_gt hL), h0⟩
  · exact ⟨hk _ _ (N p hp).1, (N p hp).2⟩
end
end Mine

end
section
theorem Mine.resetW1 : True := by
  w_top off
  trivial
open PySem PySem.W PyProof.Rows PySem.Calls PyProof.Rows.LCg
set_option Elab.async false
set_option maxRecDepth 100000
set_option maxHeartbeats 2000000
set_option linter.unusedVariables false
namespace Mine
theorem fillW1 : (PySem.Challenge.rw_wf0014_01, hd.heap_39) = (PySem.Challenge.rw_wf0014_01, hd.heap_39) := by
  k_fill
  rfl
noncomputable def bswS : Stmt := topS 1
noncomputable abbrev bswE (L : Addr) : Env := envOf (Str.ofString "_byteswap") (fnS bswS) L 21 (.ref 20)
noncomputable abbrev bswM (dv wv sv iv jv : Option Value) : Str → Option Value := fun y => if y = Str.ofString "j" then jv else if y = Str.ofString "i" then iv else if y = Str.ofString "swapped_data" then sv else if y = Str.ofString "width" then wv else if y = Str.ofString "data" then dv else none
noncomputable def outB : List Stmt := fnB (nth (fnB bswS) 1)
noncomputable def inB : List Stmt := fnB (nth outB 0)
section
variable {w : World} {mean : ExcName → Option Value} {mg mb : Str → Option Value} {A A₀ : Around} {env : Env} {outer : List Env} {base h₀ : Heap} {L : Nat} {m : Str → Option Value} {s : Shared} {Q : Flow → Shared → Prop} {E : Value → Shared → Prop}
  {rest news news' : List (Addr × Obj)} {hnd : Option Value} {dp un : Nat} {gd : Option (List Code)} {S : Nat} {bs : List UInt8} {tb : Tok}
  {dv wv sv iv jv : Option Value}
theorem setItem_BI {prog : Program} {S : Addr} {b b' : List UInt8} {k : Int} {x : UInt8} {t t2 : Tok} {Q : Unit → Shared → Prop} (F : Fr h₀ L s.heap m) (N : News h₀ L s.heap news) (hk0 : 0 ≤ k) (hk : k < (b.length : Int)) (hb : b.length < 1000)
    (e : b.set k.toNat x = b') (U : Upd S (baObj b.toArray) (baObj b'.toArray) news news')
    (h : ∀ h', Fr h₀ L h' m → News h₀ L h' news' → Q () { s with heap := h' }) : wpAny (model prog w) A (setItem (.ref S) (.int k t) (.int (x.toNat : Int) t2)) Q E s := by
  subst e
  obtain ⟨k, rfl⟩ := Int.eq_ofNat_of_zero_le hk0
  refine setItem_BA (b := b.toArray) F N ?_ (by rw [List.size_toArray]; omega) (by rw [List.size_toArray]; exact hb) x.toNat_lt h
  have e2 : x.toNat.toUInt8 = x := by simp
  rw [e2]
  simpa using U
theorem itemB {prog : Program} {value slice : Expr} {l : List UInt8} {i : Int} {t u : Tok} {Q : Value → Shared → Prop} (hfit : l.length < 1000) (h0 : 0 ≤ i) (h1 : i < l.length) (h : Q (.int (l.getD i.toNat 0).toNat s.toks) { s with toks := s.toks + 1 })
    (hs : subscripted slice false (.bytes l.toArray t) (.int i u) = operate [.bytes l.toArray t, .int i u] (getItem (.bytes l.toArray t) (.int i u)) := by with_unfolding_all rfl) :
    wpAny (model prog w) A (subscriptTail value slice (.bytes l.toArray t) (.int i u)) Q E s :=
  tail_any (typeIs_bytes s _ t) FB.slot_bytes_getitem.lookup (getItem_bytes (by omega) h0 h1 h) hs
local macro_rules | `(tactic| walk_at "subscriptTail") => `(tactic| (k_here; (with_reducible show wpAny _ _ (subscriptTail _ _ (Value.bytes _ _) (Value.int _ _)) _ _ _); k_dflt (refine' itemB ?h1 ?h2 ?h3 ?_ ?h4; (case h1 => assumption); (case h2 => omega); (case h3 => omega); (case h4 => with_unfolding_all rfl))))
local macro_rules | `(tactic| walk_at "setItem ref int") => `(tactic| (k_here; (with_reducible show wpAny _ _ (setItem (Value.ref _) (Value.int _ _) (Value.int _ _)) _ _ _); k_dflt (refine' setItem_BI ?F ?N ?h0 ?h1 ?h2 ?e ?U ?_; (case F => k_asm); (case N => k_asm); (case h2 => assumption); (case h0 => omega); (case h1 => omega); (case e => rfl); (case U => k_upd)); intro h' F' N'))
theorem in_B {i j wd : Nat} {ti tj tw : Tok} {buf : List UInt8} (B : Below A₀ base outer h₀) (X : (hd.heap_39 w.params).In h₀) (T : Top TP TL mean mg mb h₀) (hroom : dp < recursionLimit)
    (F : Fr h₀ L s.heap (bswM (some (.bytes bs.toArray tb)) (some (.int (wd : Int) tw)) (some (.ref S)) (some (.int (i : Int) ti)) (some (.int (j : Int) tj))))
    (N : News h₀ L s.heap ((S, baObj buf.toArray) :: rest)) (hr : ∀ p ∈ rest, p.1 ≠ S) (hj : j < wd) (hi : i + wd ≤ bs.length) (hb : bs.length < 1000) (hbf : buf.length = bs.length) (hb2 : buf.length < 1000)
    (hret : ∀ h' tk', Fr h₀ L h' (bswM (some (.bytes bs.toArray tb)) (some (.int (wd : Int) tw)) (some (.ref S)) (some (.int (i : Int) ti)) (some (.int (j : Int) tj))) → News h₀ L h' ((S, baObj (buf.set (i + wd - 1 - j) (bs.getD (i + j) 0)).toArray) :: rest) → Q .next { s with heap := h', toks := tk' }) :
    wpAny (model PR w) (AA hnd dp (bswE L) outer gd un) (execs inB (bswE L)) Q E s := by
  have eS : fnS bswS = fnS bswS := rfl
  conv at eS => { rhs; whnf }
  have eB : inB = inB := rfl
  conv at eB => { rhs; whnf }
  rw [eB]
  dsimp only [bswE]
  rw [eS]
  k_steps
  (with_reducible rename News _ _ _ _ => N9)
  (with_reducible rename Fr _ _ _ _ => F9)
  rw [show ((i : Int) + (wd : Int) - 1 - (j : Int)).toNat = i + wd - 1 - j by omega, show ((i : Int) + (j : Int)).toNat = i + j by omega] at N9
  exact hret _ _ F9 N9
/-- the bytes of one group turned round, j of them done -/
noncomputable def swI (bs : List UInt8) (i wd : Nat) (buf : List UInt8) : Nat → List UInt8
  | 0 => buf
  | j + 1 => (swI bs i wd buf j).set (i + wd - 1 - j) (bs.getD (i + j) 0)
noncomputable def swO (bs : List UInt8) (wd : Nat) : Nat → List UInt8
  | 0 => List.replicate bs.length 0
  | k + 1 => swI bs (k * wd) wd (swO bs wd k) wd
theorem swI_len (bs : List UInt8) (i wd : Nat) (buf : List UInt8) : ∀ j, (swI bs i wd buf j).length = buf.length
  | 0 => rfl
  | j + 1 => by rw [swI, List.length_set, swI_len bs i wd buf j]
theorem swO_len (bs : List UInt8) (wd : Nat) : ∀ k, (swO bs wd k).length = bs.length
  | 0 => by rw [swO, List.length_replicate]
  | k + 1 => by rw [swO, swI_len, swO_len bs wd k]
theorem bswM_j {v : Value} : up1 (Str.ofString "j") v (bswM dv wv sv iv jv) = bswM dv wv sv iv (some v) := by
  funext y
  by_cases h : y = Str.ofString "j"
  · subst h; rfl
  · simp only [up1, bswM, if_neg h]
theorem bswM_i {v : Value} : up1 (Str.ofString "i") v (bswM dv wv sv iv jv) = bswM dv wv sv (some v) jv := by
  funext y
  by_cases h : y = Str.ofString "i"
  · subst h; rfl
  · simp only [up1, bswM, if_neg h]
theorem in_loop {R : Result → Shared → Prop} {px : Pos} {it : Value} {s₂ : Shared} {i wd : Nat} {ti tw : Tok} {buf : List UInt8} (B : Below A₀ base outer h₀) (X : (hd.heap_39 w.params).In h₀) (T : Top TP TL mean mg mb h₀) (hroom : dp < recursionLimit)
    (F : Fr h₀ L s.heap (bswM (some (.bytes bs.toArray tb)) (some (.int (wd : Int) tw)) (some (.ref S)) (some (.int (i : Int) ti)) jv))
    (N : News h₀ L s.heap ((S, baObj buf.toArray) :: rest)) (hr : ∀ p ∈ rest, p.1 ≠ S) (hi : i + wd ≤ bs.length) (hb : bs.length < 1000) (hbf : buf.length = bs.length)
    (H : IterF PR w (AA hnd dp (bswE L) outer gd un) h₀ L (bswM (some (.bytes bs.toArray tb)) (some (.int (wd : Int) tw)) (some (.ref S)) (some (.int (i : Int) ti)) jv) ((S, baObj buf.toArray) :: rest) s [] wd (.Name (Str.ofString "j") px) (Ok1 (Str.ofString "j")) (Bd1 (Str.ofString "j") fun k v => ∃ t, v = .int (0 + (k : Int) * 1) t) it s₂)
    (hR : ∀ h' tk jv', Fr h₀ L h' (bswM (some (.bytes bs.toArray tb)) (some (.int (wd : Int) tw)) (some (.ref S)) (some (.int (i : Int) ti)) jv') → News h₀ L h' ((S, baObj (swI bs i wd buf wd).toArray) :: rest) → R (.ok .next) { s with heap := h', toks := tk }) :
    codeAny (model PR w) (AA hnd dp (bswE L) outer gd un) (.forLoop (.Name (Str.ofString "j") px) it inB [] (bswE L)) R s₂ := by
  refine for_It (env := bswE L) F N H ⟨rfl, rfl⟩ (by simp) (fun k m news => ∃ jv', m = bswM (some (.bytes bs.toArray tb)) (some (.int (wd : Int) tw)) (some (.ref S)) (some (.int (i : Int) ti)) jv' ∧ news = (S, baObj (swI bs i wd buf k).toArray) :: rest) ?_ ?_ ?_ ?_
  · rintro k m news ⟨jv', _, rfl⟩; rfl
  · exact ⟨jv, rfl, rfl⟩
  · rintro k m₁ mm news₁ own h tk E' hk ⟨v, ⟨t, rfl⟩, rfl⟩ ⟨jv', rfl, rfl⟩ ho F₁ N₁
    rw [bswM_j, show (0 + (k : Int) * 1) = (k : Int) by omega] at F₁
    refine in_B (rest := rest ++ own) B X T hroom F₁ N₁ ?_ hk hi hb (by rw [swI_len, hbf]) (by rw [swI_len, hbf]; exact hb) ?_
    · intro p hp
      rcases List.mem_append.mp hp with hp | hp
      · exact hr p hp
      · rcases ho p hp with h1 | h1
        · cases h1
        · exact Nat.ne_of_gt (h1 S (by simp))
    · intro h' tk' F' N'
      exact ⟨rfl, h', tk', _, (S, baObj (swI bs i wd buf (k + 1)).toArray) :: rest, rfl, F', N', _, rfl, rfl⟩
  · rintro h' tk m' news' F' N' ⟨jv', rfl, rfl⟩
    exact hR h' tk jv' F' N'
end
end Mine

end
section
theorem Mine.resetW2 : True := by
  w_top off
  trivial
open PySem PySem.W PyProof.Rows PySem.Calls PyProof.Rows.LCg
set_option Elab.async false
set_option maxRecDepth 100000
set_option maxHeartbeats 2000000
set_option linter.unusedVariables false
namespace Mine
theorem fillW2 : (PySem.Challenge.rw_wf0014_01, hd.heap_39) = (PySem.Challenge.rw_wf0014_01, hd.heap_39) := by
  k_fill
  rfl
noncomputable def Stop2 (P : Prop) : Prop := P
theorem Stop2.go {P : Prop} (h : Stop2 P) : P := h
theorem Stop2.mk {P : Prop} (h : P) : Stop2 P := h
section
variable {w : World} {mean : ExcName → Option Value} {mg mb : Str → Option Value} {A A₀ : Around} {env : Env} {outer : List Env} {base h₀ : Heap} {L : Nat} {m : Str → Option Value} {s : Shared} {Q : Flow → Shared → Prop} {E : Value → Shared → Prop}
  {rest news news' : List (Addr × Obj)} {hnd : Option Value} {dp un : Nat} {gd : Option (List Code)} {S : Nat} {bs : List UInt8} {tb : Tok}
  {dv wv sv iv jv : Option Value}
local macro_rules | `(tactic| walk_at "pyIter ref") => `(tactic| refine Stop2.go ?_)
theorem out_B {i wd : Nat} {ti tw : Tok} {buf : List UInt8} (B : Below A₀ base outer h₀) (X : (hd.heap_39 w.params).In h₀) (T : Top TP TL mean mg mb h₀) (hroom : dp < recursionLimit)
    (F : Fr h₀ L s.heap (bswM (some (.bytes bs.toArray tb)) (some (.int (wd : Int) tw)) (some (.ref S)) (some (.int (i : Int) ti)) jv))
    (N : News h₀ L s.heap ((S, baObj buf.toArray) :: rest)) (hr : ∀ p ∈ rest, p.1 ≠ S) (hi : i + wd ≤ bs.length) (hb : bs.length < 1000) (hbf : buf.length = bs.length)
    (hsm : Builtin.Range.small 0 (wd : Int) 1 = true) (hrs : Builtin.Range.rangeSize 0 (wd : Int) 1 = (wd : Int))
    (hret : ∀ h' tk' jv', Fr h₀ L h' (bswM (some (.bytes bs.toArray tb)) (some (.int (wd : Int) tw)) (some (.ref S)) (some (.int (i : Int) ti)) jv') → News h₀ L h' ((S, baObj (swI bs i wd buf wd).toArray) :: rest) → Q .next { s with heap := h', toks := tk' }) :
    wpAny (model PR w) (AA none dp (bswE L) outer gd un) (execs outB (bswE L)) Q E s := by
  have eS : fnS bswS = fnS bswS := rfl
  conv at eS => { rhs; whnf }
  have eB : outB = outB := rfl
  conv at eB => { rhs; whnf }
  rw [eB]
  dsimp only [bswE]
  rw [eS]
  refine wpAny_execs_cons ?_
  refine wpAny_For ?_
  k_steps
  refine Stop2.mk ?_
  (with_reducible rename IsRange _ _ _ _ _ _ _ _ => R9)
  (with_reducible rename News _ _ _ _ => N9)
  (with_reducible rename Fr _ _ _ _ => F9)
  refine it_range (n := wd) R9 rfl hsm hrs F9 N9 fun it s₂ H => ?_
  refine in_loop B X T hroom F9 N9 hr hi hb hbf (H _ _) ?_
  intro h' tk jv' F' N'
  dsimp only
  k_steps
  exact hret _ _ _ F' N'
theorem out_loop {R : Result → Shared → Prop} {px : Pos} {it : Value} {s₂ : Shared} {wd n : Nat} {tw : Tok} (B : Below A₀ base outer h₀) (X : (hd.heap_39 w.params).In h₀) (T : Top TP TL mean mg mb h₀) (hroom : dp < recursionLimit)
    (F : Fr h₀ L s.heap (bswM (some (.bytes bs.toArray tb)) (some (.int (wd : Int) tw)) (some (.ref S)) iv jv))
    (N : News h₀ L s.heap ((S, baObj (swO bs wd 0).toArray) :: rest)) (hr : ∀ p ∈ rest, p.1 ≠ S) (hn : n * wd = bs.length) (hb : bs.length < 1000)
    (hsm : Builtin.Range.small 0 (wd : Int) 1 = true) (hrs : Builtin.Range.rangeSize 0 (wd : Int) 1 = (wd : Int))
    (H : IterF PR w (AA none dp (bswE L) outer gd un) h₀ L (bswM (some (.bytes bs.toArray tb)) (some (.int (wd : Int) tw)) (some (.ref S)) iv jv) ((S, baObj (swO bs wd 0).toArray) :: rest) s [] n (.Name (Str.ofString "i") px) (Ok1 (Str.ofString "i")) (Bd1 (Str.ofString "i") fun k v => ∃ t, v = .int (0 + (k : Int) * (wd : Int)) t) it s₂)
    (hR : ∀ h' tk iv' jv', Fr h₀ L h' (bswM (some (.bytes bs.toArray tb)) (some (.int (wd : Int) tw)) (some (.ref S)) iv' jv') → News h₀ L h' ((S, baObj (swO bs wd n).toArray) :: rest) → R (.ok .next) { s with heap := h', toks := tk }) :
    codeAny (model PR w) (AA none dp (bswE L) outer gd un) (.forLoop (.Name (Str.ofString "i") px) it outB [] (bswE L)) R s₂ := by
  refine for_It (env := bswE L) F N H ⟨rfl, rfl⟩ (by simp) (fun k m news => ∃ iv' jv', m = bswM (some (.bytes bs.toArray tb)) (some (.int (wd : Int) tw)) (some (.ref S)) iv' jv' ∧ news = (S, baObj (swO bs wd k).toArray) :: rest) ?_ ?_ ?_ ?_
  · rintro k m news ⟨iv', jv', _, rfl⟩; rfl
  · exact ⟨iv, jv, rfl, rfl⟩
  · rintro k m₁ mm news₁ own h tk E' hk ⟨v, ⟨t, rfl⟩, rfl⟩ ⟨iv', jv', rfl, rfl⟩ ho F₁ N₁
    rw [bswM_i, show (0 + (k : Int) * (wd : Int)) = ((k * wd : Nat) : Int) by rw [Int.zero_add, Int.natCast_mul]] at F₁
    have hle : k * wd + wd ≤ bs.length := by
      rw [← hn, ← Nat.succ_mul]; exact Nat.mul_le_mul_right _ hk
    refine out_B (rest := rest ++ own) B X T hroom F₁ N₁ ?_ hle hb (swO_len bs wd k) hsm hrs ?_
    · intro p hp
      rcases List.mem_append.mp hp with hp | hp
      · exact hr p hp
      · rcases ho p hp with h1 | h1
        · cases h1
        · exact Nat.ne_of_gt (h1 S (by simp))
    · intro h' tk' jv'' F' N'
      exact ⟨rfl, h', tk', _, (S, baObj (swO bs wd (k + 1)).toArray) :: rest, rfl, F', N', _, _, rfl, rfl⟩
  · rintro h' tk m' news' F' N' ⟨iv', jv', rfl, rfl⟩
    exact hR h' tk iv' jv' F' N'
local macro_rules | `(tactic| walk_at "call type:bytes") => `(tactic| (k_here; (try dsimp only [List.cons_append, List.nil_append]); (with_reducible show wpAny _ _ (call (Value.type "bytes") [Value.ref _]) _ _ _); k_dflt (refine' bytes_K ?N ?m ?z ?_; (case N => k_asm); (case m => k_mem); (case z => assumption)); intro t' k'))
local macro_rules | `(tactic| walk_at "call builtin:len") => `(tactic| (k_here; (try dsimp only [List.cons_append, List.nil_append]); (with_reducible show wpAny _ _ (call (Value.builtin _) [Value.bytes _ _]) _ _ _); k_dflt (refine' len_bytes ?h ?_; (case h => assumption))))
/-- what stands behind the bytearray -/
theorem bsw_rest {wd n : Nat} {tw : Tok} (B : Below A₀ base outer h₀) (X : (hd.heap_39 w.params).In h₀) (T : Top TP TL mean mg mb h₀) (hroom : dp < recursionLimit)
    (F : Fr h₀ L s.heap (bswM (some (.bytes bs.toArray tb)) (some (.int (wd : Int) tw)) (some (.ref S)) none none))
    (N : News h₀ L s.heap ((S, baObj (swO bs wd 0).toArray) :: rest)) (hr : ∀ p ∈ rest, p.1 ≠ S) (hn : n * wd = bs.length) (hb : bs.length < 1000)
    (hsm : Builtin.Range.small 0 (wd : Int) 1 = true) (hrs : Builtin.Range.rangeSize 0 (wd : Int) 1 = (wd : Int)) (hsm2 : Builtin.Range.small 0 (bs.length : Int) (wd : Int) = true) (hrs2 : Builtin.Range.rangeSize 0 (bs.length : Int) (wd : Int) = (n : Int))
    (hwd : 0 < wd) (hw1 : wd < 1000)
    (hret : ∀ h' tk' t' m', Fr h₀ L h' m' → News h₀ L h' ((S, baObj (swO bs wd n).toArray) :: rest) → Q (.ret (.bytes (swO bs wd n).toArray t')) { s with heap := h', toks := tk' }) :
    wpAny (model PR w) (AA none dp (bswE L) outer gd un) (execs ((fnB bswS).drop 1) (bswE L)) Q E s := by
  have eS : fnS bswS = fnS bswS := rfl
  conv at eS => { rhs; whnf }
  have eB : (fnB bswS).drop 1 = (fnB bswS).drop 1 := rfl
  conv at eB => { rhs; whnf }
  rw [eB]
  dsimp only [bswE]
  rw [eS]
  have hz1 : bs.toArray.size ≤ 1099511627776 := by rw [List.size_toArray]; omega
  refine wpAny_execs_cons ?_
  refine wpAny_For ?_
  k_steps
  refine Stop2.mk ?_
  (with_reducible rename IsRange _ _ _ _ _ _ _ _ => R9)
  (with_reducible rename News _ _ _ _ => N9)
  (with_reducible rename Fr _ _ _ _ => F9)
  rw [List.size_toArray] at R9
  refine it_range (n := n) R9 rfl hsm2 hrs2 F9 N9 fun it s₂ H => ?_
  refine out_loop B X T hroom F9 N9 hr hn hb hsm hrs (H _ _) ?_
  intro h' tk iv' jv' F' N'
  dsimp only
  have hz2 : (swO bs wd n).toArray.size < 1000 := by rw [List.size_toArray, swO_len]; exact hb
  k_steps

  exact hret _ _ _ _ F' N'
end
end Mine

end
section
theorem Mine.resetS3 : True := by
  w_top off
  trivial
open PySem PySem.W PyProof.Rows PySem.Calls
open Sem (wp)
set_option Elab.async false
set_option maxRecDepth 100000
set_option maxHeartbeats 2000000
set_option linter.unusedVariables false
namespace Mine
section
variable {M : Model} {A : Around} {s : Shared} {env : Env}
theorem Assign_CallS {x g : Str} {px pg pos spos : Pos} {args : List Expr} {Q : Flow → Shared → Prop} (hs : swapsWith (.Call (.Name g pg) args [] pos) (some (.Name x px)) spos.line env = pure false)
    (h : wpAny M A (eval (.Name g pg) env) (fun fv s₁ => wpS M A (callWith pos fv [] (backTo pos (starEach args env)) []) (fun v s₂ => wpAny M A (storeName env x v) (fun _ s₃ => Q .next s₃) (fun _ _ => False) s₂) s₁) (fun _ _ => False) s) :
    wpS M A (exec (.Assign [.Name x px] (.Call (.Name g pg) args [] pos) spos) env) Q s := by
  rw [exec_Assign_Name env x px _ spos hs]
  refine wpS_bind (wpS_standAt (wpS_bind ?_))
  rw [arm_eval_Call_Name']
  refine wpS_bind (wpS_any (wpAny_mono h (fun fv s₁ h₁ => ?_) fun _ _ e => e))
  refine wpS_mono h₁ fun v s₂ h₂ => wpS_bind (wpS_standAt (wpS_bind (wpS_any (wpAny_bindName (wpAny_mono h₂ (fun _ s₃ h₃ => wpS_pure h₃) fun _ _ e => e)))))
theorem callWith_ofS {P : Heap → Prop} {pos : Pos} {f : Value} {args : List (Bool × Sem Value)} {Q : Value → Shared → Prop} (hplain : args.any (·.1) = false)
    (hk : ∀ h, P h → ∃ k, (k = Keeper.frame ∨ k = Keeper.machine ∨ k = Keeper.boundFrame) ∧ Looks M h (keeperOf f) k)
    (h : wpAny M A (evalArgs f true args []) (fun a s₁ => P s₁.heap ∧ wpS M A (call f a.pos a.kw) Q s₁) (fun _ _ => False) s) : wpS M A (callWith pos f [] args []) Q s := by
  unfold callWith
  refine wpS_bind (wpS_holding (wpS_any (wpAny_mono h (fun a s₁ h₁ => wpS_bind (wpS_standAt ?_)) fun _ _ x => x)))
  obtain ⟨k, hk', L⟩ := hk _ h₁.1
  simp only [hplain, List.any_nil, Bool.or_false, List.nil_append]
  refine wpS_bind (wpS_any (L.here ?_))
  have h2 := h₁.2
  have tail : ∀ {t : Sem Value}, wpS M A t Q s₁ → wpS M A (t >>= fun r => holding [r] point >>= fun _ => pure r) Q s₁ :=
    fun ht => wpS_bind (wpS_mono ht fun r s₂ hr => wpS_bind (wpS_any (wpAny_holding (wpAny_point (wpS_pure hr)))))
  have marked (mk : Value) : wpS M A (callMarked mk f a.pos a.kw) Q s₁ := by unfold callMarked; exact wpS_keep h2
  rcases hk' with rfl | rfl | rfl <;> dsimp only <;> first | exact tail h2 | (split <;> first | exact tail h2 | exact tail (marked _))
theorem callWith_K0S {K : Frag} {pos : Pos} {f : Value} {Q : Value → Shared → Prop} (X : K.In s.heap) (hk : keepIn K f = true) (h : wpS M A (call f []) Q s) : wpS M A (callWith pos f [] (backTo pos (starEach [] env)) []) Q s :=
  callWith_ofS rfl (keeps_K hk) (evalArgs_nil3 ⟨X, h⟩)
theorem callWith_KS {K : Frag} {h₀ : Heap} {pos : Pos} {f : Value} {e : Expr} {rest : List Expr} {Q : Value → Shared → Prop} (hk : keepIn K f = true) (h : wpAny M A (spliced (backTo pos (starEach (e :: rest) env))) (fun vs s₁ => K.In s₁.heap ∧ wpS M A (call f vs) Q s₁) (fun _ _ => False) s)
    (he : starEach (e :: rest) env = (false, eval e env) :: starEach rest env := by rfl) (hplain : (backTo pos (starEach rest env)).any (·.1) = false := by rfl) :
    wpS M A (callWith pos f [] (backTo pos (starEach (e :: rest) env)) []) Q s := by
  rw [he] at h ⊢
  exact callWith_ofS (by show (false || (backTo pos (starEach rest env)).any (·.1)) = false; rw [hplain]; rfl) (keeps_K hk) (evalArgs_plain h)
theorem callWith_TS {pos : Pos} {T : String} {e : Expr} {rest : List Expr} {Q : Value → Shared → Prop} (h : wpAny M A (spliced (backTo pos (starEach (e :: rest) env))) (fun vs s₁ => wpS M A (call (.type T) vs) Q s₁) (fun _ _ => False) s)
    (he : starEach (e :: rest) env = (false, eval e env) :: starEach rest env := by rfl) (hplain : (backTo pos (starEach rest env)).any (·.1) = false := by rfl) :
    wpS M A (callWith pos (.type T) [] (backTo pos (starEach (e :: rest) env)) []) Q s := by
  rw [he] at h ⊢
  refine callWith_ofS (P := fun _ => True) (by show (false || (backTo pos (starEach rest env)).any (·.1)) = false; rw [hplain]; rfl) (fun h _ => ⟨.machine, .inr (.inl rfl), ?_⟩) (evalArgs_plain (wpAny_mono h (fun vs s₁ h₁ => ⟨trivial, h₁⟩) fun _ _ e => e))
  exact Looks.now
end
end Mine

end
section
theorem Mine.resetW3 : True := by
  w_top off
  trivial
open PySem PySem.W PyProof.Rows PySem.Calls PyProof.Rows.LCg
set_option Elab.async false
set_option maxRecDepth 100000
set_option maxHeartbeats 2000000
set_option linter.unusedVariables false
namespace Mine
theorem fillW3 : (PySem.Challenge.rw_wf0014_01, hd.heap_39) = (PySem.Challenge.rw_wf0014_01, hd.heap_39) := by
  k_fill
  rfl
theorem bswM_0 {dv wv : Value} : (fun y => List.lookup y ([(Str.ofString "data", dv), (Str.ofString "width", wv)] : List (Str × Value)).reverse) = bswM (some dv) (some wv) none none none := by
  have e : (fun y => List.lookup y ([(Str.ofString "data", dv), (Str.ofString "width", wv)] : List (Str × Value)).reverse) = fun y => if y = Str.ofString "width" then some wv else if y = Str.ofString "data" then some dv else none := by
    funext y
    simp only [List.reverse_cons, List.reverse_nil, List.nil_append, List.cons_append, List.lookup_cons, List.lookup_nil]
    by_cases h1 : y = Str.ofString "width"
    · subst h1; rfl
    · by_cases h2 : y = Str.ofString "data"
      · subst h2; rfl
      · rw [beq_false_of_ne h1, beq_false_of_ne h2, if_neg h1, if_neg h2]
  rw [e]
  funext y
  by_cases h1 : y = Str.ofString "width"
  · subst h1; rfl
  · by_cases h2 : y = Str.ofString "data"
    · subst h2; rfl
    · simp only [bswM, if_neg h1, if_neg h2]
      (repeat' split) <;> rfl
theorem bswM_s {dv wv sv iv jv : Option Value} {v : Value} : (fun y => if y = Str.ofString "swapped_data" then some v else bswM dv wv sv iv jv y) = bswM dv wv (some v) iv jv := by
  funext y
  by_cases h : y = Str.ofString "swapped_data"
  · subst h; rfl
  · simp only [bswM, if_neg h]
section
variable {w : World} {mean : ExcName → Option Value} {mg mb : Str → Option Value} {A₀ : Around} {env : Env} {outer : List Env} {base h₀ : Heap} {L : Nat} {m : Str → Option Value} {s : Shared} {Q : Value → Shared → Prop}
  {news : List (Addr × Obj)} {dp un : Nat} {gd : Option (List Code)} {bs : List UInt8} {tb : Tok}
local macro_rules | `(tactic| walk_at "call builtin:len") => `(tactic| (k_here; (try dsimp only [List.cons_append, List.nil_append]); (with_reducible show wpAny _ _ (call (Value.builtin _) [Value.bytes _ _]) _ _ _); k_dflt (refine' len_bytes ?h ?_; (case h => assumption))))
theorem bsw_S {wd n : Nat} {tw : Tok} (B : Below A₀ base outer h₀) (F : Fr h₀ L s.heap m) (X : (hd.heap_39 w.params).In h₀) (N : News h₀ L s.heap news)
    (T : Top TP TL mean mg mb h₀) (hf : env.frame = some L) (hke : env.scope.kind = .function) (hroom : dp + 8 < recursionLimit)
    (hn : n * wd = bs.length) (hb : bs.length < 1000)
    (hsm : Builtin.Range.small 0 (wd : Int) 1 = true) (hrs : Builtin.Range.rangeSize 0 (wd : Int) 1 = (wd : Int)) (hsm2 : Builtin.Range.small 0 (bs.length : Int) (wd : Int) = true) (hrs2 : Builtin.Range.rangeSize 0 (bs.length : Int) (wd : Int) = (n : Int))
    (hwd : 0 < wd) (hw1 : wd < 1000)
    (hret : ∀ h' tk' t', Fr h₀ L h' m → News h₀ L h' news → Q (.bytes (swO bs wd n).toArray t') { s with heap := h', toks := tk' }) :
    wpS (model PR w) (AA none dp env outer gd un) (call (.ref 21) [.bytes bs.toArray tb, .int (wd : Int) tw]) Q s := by
  have hz1 : bs.toArray.size ≤ 1099511627776 := by rw [List.size_toArray]; omega
  refine wpS_call ?_
  k_dflt (refine' code_defS ?k1 ?k2 ?k3 ?k4 ?k5 ?kA ?kF ?kK ?k6 ?k7 ?k8 ?k9 ?kB ?_ ?c2 ?c3 ?c4 ?c5; (case kA => exact rfl); (case kF => exact hf); (case kK => exact hke); (case k1 => k_asm); (case k2 => k_asm); (case k3 => k_asm); (case k4 => k_asm); (case k5 => k_asm); (case k6 => k_is); (case k7 => k_is); (case k8 => (dsimp only [AA]; omega)); (case k9 => exact BindsTo.of_eq rfl); (case c5 => decide); (case kB => exact locs rfl); (case c2 => exact rfl); (case c3 => exact rfl); (case c4 => exact rfl); k_whole; intro g' L' h' FG' F' N' B' X' T' lt'; (try dsimp only))
  have F8 : Fr g' L' h' (bswM (some (.bytes bs.toArray tb)) (some (.int (wd : Int) tw)) none none none) := by
    rw [← bswM_0]; exact F'
  clear F'
  refine execs_consS ?_
  refine Assign_CallS rfl ?_
  k_steps
  refine callWith_TS ?_
  have hall := And.intro hsm (And.intro hrs (And.intro hsm2 hrs2))
  generalize hP : (Builtin.Range.small 0 (wd : Int) 1 = true ∧ Builtin.Range.rangeSize 0 (wd : Int) 1 = (wd : Int) ∧ Builtin.Range.small 0 (bs.length : Int) (wd : Int) = true ∧ Builtin.Range.rangeSize 0 (bs.length : Int) (wd : Int) = (n : Int)) = P at hall
  clear hsm hrs hsm2 hrs2
  k_steps
  (with_reducible rename Fr _ _ _ _ => F9)
  refine ba_K (n := bs.toArray.size) F9 N' (by rw [List.size_toArray]; exact hb) fun S h₁ F₁ N₁ l₁ => ?_
  have hr : ∀ p ∈ news, p.1 ≠ S := fun p hp => Nat.ne_of_lt (l₁ p hp)
  k_steps
  (with_reducible rename Fr _ _ _ _ => F7)
  (with_reducible rename News _ _ _ _ => N7)
  rw [show (fun y => if y = Str.ofString "swapped_data" then some (Value.ref S) else bswM (some (.bytes bs.toArray tb)) (some (.int (wd : Int) tw)) none none none y) = bswM (some (.bytes bs.toArray tb)) (some (.int (wd : Int) tw)) (some (.ref S)) none none from bswM_s] at F7
  rw [show baObj (Array.replicate bs.toArray.size 0) = baObj (swO bs wd 0).toArray by rw [swO, ← List.size_toArray]; simp] at N7
  rw [← hP] at hall
  obtain ⟨hsm, hrs, hsm2, hrs2⟩ := hall
  refine wpS_any ?_
  refine bsw_rest (rest := news) B' X' T' (by dsimp only; omega) F7 N7 hr hn hb hsm hrs hsm2 hrs2 hwd hw1 ?_
  intro h₃ tk₃ t₃ m₃ F₃ N₃
  refine leaveK_ F₃ N₃ fun F₅ N₅ => ?_
  exact ⟨_, rfl, _, rfl, hret _ _ _ F₅ (fun p hp => N₅ p (.tail _ hp))⟩
end
end Mine

end
section
theorem Mine.resetO1 : True := by
  w_top off
  trivial
open PySem PySem.W PyProof.Rows PySem.Calls
set_option Elab.async false
set_option maxRecDepth 100000
set_option maxHeartbeats 2000000
namespace Mine
theorem fillO1 : (PySem.Challenge.rw_wf0014_01, hd.heap_39) = (PySem.Challenge.rw_wf0014_01, hd.heap_39) := by
  k_fill
  rfl
section
variable {w : World} {mean : ExcName → Option Value} {mg mb : Str → Option Value} {A A₀ : Around} {env : Env} {outer : List Env} {base h₀ : Heap} {L : Addr} {m : Str → Option Value} {s : Shared} {Q E : Value → Shared → Prop}
  {news : List (Addr × Obj)}
local macro_rules | `(tactic| walk_at "binaryOp FloorDiv int int") => `(tactic| (with_reducible refine floordiv_int (by assumption) ?_ (Or.inl (PyProof.noPylong_of_log2 (by assumption)))))
local macro_rules | `(tactic| walk_at "binaryOp RShift int int") => `(tactic| (with_reducible refine rshift_int (by assumption) ?_))
local macro_rules | `(tactic| walk_at "binaryOp Mult int int") => `(tactic| (with_reducible refine PyProof.Rows.mul_int ?_ (by assumption)))
theorem neg_C {a : Int} {ta : Tok} (B : Below A₀ base outer h₀) (F : Fr h₀ L s.heap m) (X : (hd.heap_39 w.params).In h₀) (N : News h₀ L s.heap news)
    (T : Top TP TL mean mg mb h₀) (hA : A.frames = some (env :: outer)) (hf : env.frame = some L) (hke : env.scope.kind = .function) (hroom : A.depth < recursionLimit) 
    (hret : ∀ h' tk' t, Fr h₀ L h' m → News h₀ L h' news → Q (.int (-a) t) { s with heap := h', toks := tk' }) :
    wpAny (model PR w) A (call (.ref 98) [.int a ta]) Q E s := by
  refine wpAny_call ?_
  k_dflt (refine' code_def ?k1 ?k2 ?k3 ?k4 ?k5 ?kA ?kF ?kK ?k6 ?k7 ?k8 ?k9 ?kB ?_ ?c2 ?c3 ?c4 ?c5; (case kA => assumption); (case kF => assumption); (case kK => assumption); (case k1 => k_asm); (case k2 => k_asm); (case k3 => k_asm); (case k4 => k_asm); (case k5 => k_asm); (case k6 => k_is); (case k7 => k_is); (case k8 => assumption); (case k9 => exact BindsTo.of_eq rfl); (case c5 => decide); (case kB => exact locs rfl); (case c2 => exact rfl); (case c3 => exact rfl); (case c4 => exact rfl); k_whole; intro g' L' h' FG' F' N' B' X' T'; (try dsimp only); (try k_fold))
  k_steps
  exact hret _ _ _ (by assumption) (by assumption)
theorem mul_C {a b : Int} {ta tb : Tok} (B : Below A₀ base outer h₀) (F : Fr h₀ L s.heap m) (X : (hd.heap_39 w.params).In h₀) (N : News h₀ L s.heap news)
    (T : Top TP TL mean mg mb h₀) (hA : A.frames = some (env :: outer)) (hf : env.frame = some L) (hke : env.scope.kind = .function) (hroom : A.depth < recursionLimit) (hb : IntMulOk a b)
    (hret : ∀ h' tk' t, Fr h₀ L h' m → News h₀ L h' news → Q (.int (a * b) t) { s with heap := h', toks := tk' }) :
    wpAny (model PR w) A (call (.ref 91) [.int a ta, .int b tb]) Q E s := by
  refine wpAny_call ?_
  k_dflt (refine' code_def ?k1 ?k2 ?k3 ?k4 ?k5 ?kA ?kF ?kK ?k6 ?k7 ?k8 ?k9 ?kB ?_ ?c2 ?c3 ?c4 ?c5; (case kA => assumption); (case kF => assumption); (case kK => assumption); (case k1 => k_asm); (case k2 => k_asm); (case k3 => k_asm); (case k4 => k_asm); (case k5 => k_asm); (case k6 => k_is); (case k7 => k_is); (case k8 => assumption); (case k9 => exact BindsTo.of_eq rfl); (case c5 => decide); (case kB => exact locs rfl); (case c2 => exact rfl); (case c3 => exact rfl); (case c4 => exact rfl); k_whole; intro g' L' h' FG' F' N' B' X' T'; (try dsimp only); (try k_fold))
  k_steps
  exact hret _ _ _ (by assumption) (by assumption)
theorem xor_C {a b : Int} {ta tb : Tok} (B : Below A₀ base outer h₀) (F : Fr h₀ L s.heap m) (X : (hd.heap_39 w.params).In h₀) (N : News h₀ L s.heap news)
    (T : Top TP TL mean mg mb h₀) (hA : A.frames = some (env :: outer)) (hf : env.frame = some L) (hke : env.scope.kind = .function) (hroom : A.depth < recursionLimit) 
    (hret : ∀ h' tk' t, Fr h₀ L h' m → News h₀ L h' news → Q (.int (Builtin.bitXor a b) t) { s with heap := h', toks := tk' }) :
    wpAny (model PR w) A (call (.ref 119) [.int a ta, .int b tb]) Q E s := by
  refine wpAny_call ?_
  k_dflt (refine' code_def ?k1 ?k2 ?k3 ?k4 ?k5 ?kA ?kF ?kK ?k6 ?k7 ?k8 ?k9 ?kB ?_ ?c2 ?c3 ?c4 ?c5; (case kA => assumption); (case kF => assumption); (case kK => assumption); (case k1 => k_asm); (case k2 => k_asm); (case k3 => k_asm); (case k4 => k_asm); (case k5 => k_asm); (case k6 => k_is); (case k7 => k_is); (case k8 => assumption); (case k9 => exact BindsTo.of_eq rfl); (case c5 => decide); (case kB => exact locs rfl); (case c2 => exact rfl); (case c3 => exact rfl); (case c4 => exact rfl); k_whole; intro g' L' h' FG' F' N' B' X' T'; (try dsimp only); (try k_fold))
  k_steps
  exact hret _ _ _ (by assumption) (by assumption)
theorem and_C {a b : Int} {ta tb : Tok} (B : Below A₀ base outer h₀) (F : Fr h₀ L s.heap m) (X : (hd.heap_39 w.params).In h₀) (N : News h₀ L s.heap news)
    (T : Top TP TL mean mg mb h₀) (hA : A.frames = some (env :: outer)) (hf : env.frame = some L) (hke : env.scope.kind = .function) (hroom : A.depth < recursionLimit) 
    (hret : ∀ h' tk' t, Fr h₀ L h' m → News h₀ L h' news → Q (.int (Builtin.bitAnd a b) t) { s with heap := h', toks := tk' }) :
    wpAny (model PR w) A (call (.ref 77) [.int a ta, .int b tb]) Q E s := by
  refine wpAny_call ?_
  k_dflt (refine' code_def ?k1 ?k2 ?k3 ?k4 ?k5 ?kA ?kF ?kK ?k6 ?k7 ?k8 ?k9 ?kB ?_ ?c2 ?c3 ?c4 ?c5; (case kA => assumption); (case kF => assumption); (case kK => assumption); (case k1 => k_asm); (case k2 => k_asm); (case k3 => k_asm); (case k4 => k_asm); (case k5 => k_asm); (case k6 => k_is); (case k7 => k_is); (case k8 => assumption); (case k9 => exact BindsTo.of_eq rfl); (case c5 => decide); (case kB => exact locs rfl); (case c2 => exact rfl); (case c3 => exact rfl); (case c4 => exact rfl); k_whole; intro g' L' h' FG' F' N' B' X' T'; (try dsimp only); (try k_fold))
  k_steps
  exact hret _ _ _ (by assumption) (by assumption)
theorem shr_C {a b : Int} {ta tb : Tok} (B : Below A₀ base outer h₀) (F : Fr h₀ L s.heap m) (X : (hd.heap_39 w.params).In h₀) (N : News h₀ L s.heap news)
    (T : Top TP TL mean mg mb h₀) (hA : A.frames = some (env :: outer)) (hf : env.frame = some L) (hke : env.scope.kind = .function) (hroom : A.depth < recursionLimit) (hb : 0 ≤ b)
    (hret : ∀ h' tk' t, Fr h₀ L h' m → News h₀ L h' news → Q (.int (a.fdiv (2 ^ b.toNat)) t) { s with heap := h', toks := tk' }) :
    wpAny (model PR w) A (call (.ref 105) [.int a ta, .int b tb]) Q E s := by
  refine wpAny_call ?_
  k_dflt (refine' code_def ?k1 ?k2 ?k3 ?k4 ?k5 ?kA ?kF ?kK ?k6 ?k7 ?k8 ?k9 ?kB ?_ ?c2 ?c3 ?c4 ?c5; (case kA => assumption); (case kF => assumption); (case kK => assumption); (case k1 => k_asm); (case k2 => k_asm); (case k3 => k_asm); (case k4 => k_asm); (case k5 => k_asm); (case k6 => k_is); (case k7 => k_is); (case k8 => assumption); (case k9 => exact BindsTo.of_eq rfl); (case c5 => decide); (case kB => exact locs rfl); (case c2 => exact rfl); (case c3 => exact rfl); (case c4 => exact rfl); k_whole; intro g' L' h' FG' F' N' B' X' T'; (try dsimp only); (try k_fold))
  k_steps
  exact hret _ _ _ (by assumption) (by assumption)
theorem div_C {a b : Int} {ta tb : Tok} (B : Below A₀ base outer h₀) (F : Fr h₀ L s.heap m) (X : (hd.heap_39 w.params).In h₀) (N : News h₀ L s.heap news)
    (T : Top TP TL mean mg mb h₀) (hA : A.frames = some (env :: outer)) (hf : env.frame = some L) (hke : env.scope.kind = .function) (hroom : A.depth < recursionLimit) (hb : b ≠ 0) (hb2 : b.natAbs.log2 < 9000)
    (hret : ∀ h' tk' t, Fr h₀ L h' m → News h₀ L h' news → Q (.int (a.fdiv b) t) { s with heap := h', toks := tk' }) :
    wpAny (model PR w) A (call (.ref 84) [.int a ta, .int b tb]) Q E s := by
  refine wpAny_call ?_
  k_dflt (refine' code_def ?k1 ?k2 ?k3 ?k4 ?k5 ?kA ?kF ?kK ?k6 ?k7 ?k8 ?k9 ?kB ?_ ?c2 ?c3 ?c4 ?c5; (case kA => assumption); (case kF => assumption); (case kK => assumption); (case k1 => k_asm); (case k2 => k_asm); (case k3 => k_asm); (case k4 => k_asm); (case k5 => k_asm); (case k6 => k_is); (case k7 => k_is); (case k8 => assumption); (case k9 => exact BindsTo.of_eq rfl); (case c5 => decide); (case kB => exact locs rfl); (case c2 => exact rfl); (case c3 => exact rfl); (case c4 => exact rfl); k_whole; intro g' L' h' FG' F' N' B' X' T'; (try dsimp only); (try k_fold))
  k_steps
  exact hret _ _ _ (by assumption) (by assumption)
end
end Mine

end
section
theorem Mine.resetP1 : True := by
  w_top off
  trivial
open PySem PySem.W PyProof.Rows PySem.Calls PyProof.Rows.LCg
set_option Elab.async false
set_option maxRecDepth 100000
set_option maxHeartbeats 2000000
set_option linter.unusedVariables false
namespace Mine
theorem fillP1 : (PySem.Challenge.rw_wf0014_01, hd.heap_39) = (PySem.Challenge.rw_wf0014_01, hd.heap_39) := by
  k_fill
  rfl
noncomputable def plS : Stmt := topS 17
noncomputable abbrev plE (L : Addr) : Env := envOfC (Str.ofString "_law_places") (fnS plS) L 143 (.ref 142)
noncomputable abbrev plM (bi nb mx : Option Value) : Str → Option Value := fun y => if y = Str.ofString "number" then nb else if y = Str.ofString "mixed" then mx else if y = Str.ofString "bits" then bi else none
noncomputable def plB : List Stmt := fnB (nth (fnB plS) 1)
noncomputable def StopP (P : Prop) : Prop := P
theorem StopP.go {P : Prop} (h : StopP P) : P := h
theorem StopP.mk {P : Prop} (h : P) : StopP P := h
theorem plM_x {bi nb mx : Option Value} {v : Value} : (fun y => if y = Str.ofString "mixed" then some v else plM bi nb mx y) = plM bi nb (some v) := by
  funext y
  by_cases h : y = Str.ofString "mixed"
  · subst h; rfl
  · simp only [plM, if_neg h]
theorem plM_n {bi nb mx : Option Value} {v : Value} : up1 (Str.ofString "number") v (plM bi nb mx) = plM bi (some v) mx := by
  funext y
  by_cases h : y = Str.ofString "number"
  · subst h; rfl
  · simp only [up1, plM, if_neg h]
noncomputable def pgm (i : Int) : Int := Builtin.bitXor i (i.fdiv (2 ^ (1 : Int).toNat))
noncomputable def pgb (i : Int) : List Int := [(pgm i).fdiv (2 ^ (2 : Int).toNat), Builtin.bitAnd ((pgm i).fdiv (2 ^ (1 : Int).toNat)) 1, Builtin.bitAnd (pgm i) 1]
theorem ext3 {prog : Program} {w : World} {A : Around} {E Q : Value → Shared → Prop} {s : Shared} {h₀ : Heap} {L D b : Nat} {m : Str → Option Value} {vs : List Value} {x y z : Value} {n n2 : Nat} {rest : List (Addr × Obj)}
    (F : Fr h₀ L s.heap m) (N : News h₀ L s.heap ((b, listOf #[x, y, z] n2) :: (D, listOf vs.toArray n) :: rest)) (hb : b ≠ D) (hr : ∀ p ∈ rest, p.1 ≠ D) (hl : vs.length < 900)
    (h : ∀ h', Fr h₀ L h' m → News h₀ L h' ((b, listOf #[x, y, z] n2) :: (D, listOf (vs ++ [x, y, z]).toArray (n + 1)) :: rest) → Q .none { s with heap := h' }) : wpAny (model prog w) A (call (.builtin "list.extend") [.ref D, .ref b]) Q E s := by
  have hs : sizeLine = 16777216 := rfl
  refine kl_extend (D := D) (b := b) (l := vs ++ [x, y, z]) F N (.head _) (by simp) (by simp) (Upd.tail hb (Upd.head hr)) ?_ ?_ ?_ h
  · simp only [Builtin.List.listTooLong, List.size_toArray, hs, List.length_cons, List.length_nil]
    simp
    omega
  · rw [List.toList_toArray]; omega
  · rw [List.size_toArray, hs]; simp; omega
section
variable {w : World} {mean : ExcName → Option Value} {mg mb : Str → Option Value} {A A₀ : Around} {env : Env} {outer : List Env} {base h₀ : Heap} {L : Nat} {m : Str → Option Value} {s : Shared} {Q : Flow → Shared → Prop} {E : Value → Shared → Prop}
  {bl : Nat} {vs : List Value} {j : Nat} {rest : List (Addr × Obj)} {hnd : Option Value} {dp un : Nat} {gd : Option (List Code)}
  {bi nb mx : Option Value}
local macro_rules | `(tactic| walk_at "call ref") => `(tactic| (k_here; (try dsimp only [List.cons_append, List.nil_append]); k_dflt (first
  | ((with_reducible show wpAny _ _ (call (Value.ref 119) [Value.int _ _, Value.int _ _]) _ _ _); refine' xor_C ?B ?F ?X ?N ?T ?hA ?hf ?hke ?hr ?_; (case B => k_asm); (case F => k_asm); (case X => k_asm); (case N => k_asm); (case T => k_asm); (case hA => exact rfl); (case hf => exact rfl); (case hke => exact rfl); (case hr => assumption))
  | ((with_reducible show wpAny _ _ (call (Value.ref 77) [Value.int _ _, Value.int _ _]) _ _ _); refine' and_C ?B ?F ?X ?N ?T ?hA ?hf ?hke ?hr ?_; (case B => k_asm); (case F => k_asm); (case X => k_asm); (case N => k_asm); (case T => k_asm); (case hA => exact rfl); (case hf => exact rfl); (case hke => exact rfl); (case hr => assumption))
  | ((with_reducible show wpAny _ _ (call (Value.ref 105) [Value.int _ _, Value.int _ _]) _ _ _); refine' shr_C ?B ?F ?X ?N ?T ?hA ?hf ?hke ?hr ?hb ?_; (case B => k_asm); (case F => k_asm); (case X => k_asm); (case N => k_asm); (case T => k_asm); (case hA => exact rfl); (case hf => exact rfl); (case hke => exact rfl); (case hr => assumption); (case hb => decide))); intro h' tk' t' F' N'; (try k_sweep)))
local macro_rules | `(tactic| walk_at "call builtin:list.extend") => `(tactic| refine StopP.go ?_)
theorem pl_B {i : Int} {ti : Tok} {q : List Int} (B : Below A₀ base outer h₀) (X : (hd.heap_39 w.params).In h₀) (T : Top TP TL mean mg mb h₀) (hroom : dp < recursionLimit)
    (F : Fr h₀ L s.heap (plM (some (.ref bl)) (some (.int i ti)) mx))
    (N : News h₀ L s.heap ((bl, listOf vs.toArray j) :: rest)) (hI : IntsAre vs q) (hr : ∀ p ∈ rest, p.1 ≠ bl) (hl : vs.length < 900)
    (hret : ∀ h' tk' vs' j' mx', IntsAre vs' (q ++ pgb i) → Fr h₀ L h' (plM (some (.ref bl)) (some (.int i ti)) mx') → News h₀ L h' ((bl, listOf vs'.toArray j') :: rest) → Q .next { s with heap := h', toks := tk' }) :
    wpAny (model PR w) (AA hnd dp (plE L) outer gd un) (execs plB (plE L)) Q E s := by
  have eS : fnS plS = fnS plS := rfl
  conv at eS => { rhs; whnf }
  have eB : plB = plB := rfl
  conv at eB => { rhs; whnf }
  rw [eB]
  dsimp only [plE]
  rw [eS]
  k_steps
  refine StopP.mk ?_
  (with_reducible rename News _ _ _ _ => N9)
  (with_reducible rename Fr _ _ _ _ => F9)
  rename_i l9 h9 l91
  rw [plM_x] at F9
  have lt9 : bl < l9 := l91.1
  have hb9 : bl ≠ l9 := Nat.ne_of_lt lt9
  refine ext3 F9 N9 (Ne.symm hb9) hr hl ?_
  intro h' F' N'
  dsimp only
  k_steps
  refine hret _ _ _ _ _ (IntsAre.append hI ?_) F' (fun p hp => N' p (.tail _ hp))
  exact IntsAre.cons _ _ (IntsAre.cons _ _ (IntsAre.cons _ _ IntsAre.nil))
end
end Mine

end
section
theorem Mine.resetP2 : True := by
  w_top off
  trivial
open PySem PySem.W PyProof.Rows PySem.Calls PyProof.Rows.LCg
set_option Elab.async false
set_option maxRecDepth 100000
set_option maxHeartbeats 2000000
set_option linter.unusedVariables false
namespace Mine
theorem fillP2 : (PySem.Challenge.rw_wf0014_01, hd.heap_39) = (PySem.Challenge.rw_wf0014_01, hd.heap_39) := by
  k_fill
  rfl
noncomputable def pbits (n : Nat) : List Int := (List.range n).flatMap fun (k : Nat) => pgb (k : Int)
theorem pbits_succ (n : Nat) : pbits (n + 1) = pbits n ++ pgb (n : Int) := by
  unfold pbits
  rw [List.range_succ, List.flatMap_append]
  simp
theorem pbits_len (n : Nat) : (pbits n).length = 3 * n := by
  induction n with
  | zero => rfl
  | succ n ih => rw [pbits_succ, List.length_append, ih]; rfl
section
variable {w : World} {mean : ExcName → Option Value} {mg mb : Str → Option Value} {A A₀ : Around} {env : Env} {outer : List Env} {base h₀ : Heap} {L : Nat} {m : Str → Option Value} {s : Shared} {Q : Flow → Shared → Prop} {E : Value → Shared → Prop}
  {bl : Nat} {vs : List Value} {j : Nat} {rest : List (Addr × Obj)} {hnd : Option Value} {dp un : Nat} {gd : Option (List Code)}
  {bi nb mx : Option Value}
theorem pl_loop {R : Result → Shared → Prop} {px : Pos} {it : Value} {s₂ : Shared} (B : Below A₀ base outer h₀) (X : (hd.heap_39 w.params).In h₀) (T : Top TP TL mean mg mb h₀) (hroom : dp < recursionLimit)
    (F : Fr h₀ L s.heap (plM (some (.ref bl)) nb mx)) (N : News h₀ L s.heap ((bl, listOf ([] : List Value).toArray j) :: rest)) (hr : ∀ p ∈ rest, p.1 ≠ bl)
    (H : IterF PR w (AA none dp (plE L) outer gd un) h₀ L (plM (some (.ref bl)) nb mx) ((bl, listOf ([] : List Value).toArray j) :: rest) s [] 8 (.Name (Str.ofString "number") px) (Ok1 (Str.ofString "number")) (Bd1 (Str.ofString "number") fun k v => ∃ t, v = .int (0 + (k : Int) * 1) t) it s₂)
    (hR : ∀ h' tk nb' mx' vs' j', IntsAre vs' (pbits 8) → Fr h₀ L h' (plM (some (.ref bl)) nb' mx') → News h₀ L h' ((bl, listOf vs'.toArray j') :: rest) → R (.ok .next) { s with heap := h', toks := tk }) :
    codeAny (model PR w) (AA none dp (plE L) outer gd un) (.forLoop (.Name (Str.ofString "number") px) it plB [] (plE L)) R s₂ := by
  refine for_It (env := plE L) F N H ⟨rfl, rfl⟩ (by simp) (fun k m news => ∃ nb' mx' vs' j', m = plM (some (.ref bl)) nb' mx' ∧ IntsAre vs' (pbits k) ∧ news = (bl, listOf vs'.toArray j') :: rest) ?_ ?_ ?_ ?_
  · rintro k m news ⟨nb', mx', vs', j', _, _, rfl⟩; rfl
  · exact ⟨nb, mx, [], j, rfl, IntsAre.nil, rfl⟩
  · rintro k m₁ mm news₁ own h tk E' hk ⟨v, ⟨t, rfl⟩, rfl⟩ ⟨nb', mx', vs', j', rfl, hI, rfl⟩ ho F₁ N₁
    rw [plM_n, show (0 + (k : Int) * 1) = (k : Int) by omega] at F₁
    refine pl_B (rest := rest ++ own) B X T hroom F₁ N₁ hI ?_ ?_ ?_
    · intro p hp
      rcases List.mem_append.mp hp with hp | hp
      · exact hr p hp
      · rcases ho p hp with h1 | h1
        · cases h1
        · exact Nat.ne_of_gt (h1 bl (by simp))
    · rw [hI.length, pbits_len]; omega
    · intro h' tk' vs'' j'' mx'' hI' F' N'
      exact ⟨rfl, h', tk', _, (bl, listOf vs''.toArray j'') :: rest, rfl, F', N', _, _, vs'', j'', rfl, pbits_succ k ▸ hI', rfl⟩
  · rintro h' tk m' news' F' N' ⟨nb', mx', vs', j', rfl, hI, rfl⟩
    exact hR h' tk nb' mx' vs' j' hI F' N'
theorem pl_for (B : Below A₀ base outer h₀) (X : (hd.heap_39 w.params).In h₀) (T : Top TP TL mean mg mb h₀) (hroom : dp < recursionLimit)
    (F : Fr h₀ L s.heap (plM (some (.ref bl)) nb mx)) (N : News h₀ L s.heap ((bl, listOf ([] : List Value).toArray j) :: rest)) (hr : ∀ p ∈ rest, p.1 ≠ bl)
    (hret : ∀ h' tk nb' mx' vs' j', IntsAre vs' (pbits 8) → Fr h₀ L h' (plM (some (.ref bl)) nb' mx') → News h₀ L h' ((bl, listOf vs'.toArray j') :: rest) → Q .next { s with heap := h', toks := tk }) :
    wpAny (model PR w) (AA none dp (plE L) outer gd un) (exec (nth (fnB plS) 1) (plE L)) Q E s := by
  have eS : fnS plS = fnS plS := rfl
  conv at eS => { rhs; whnf }
  have eB : nth (fnB plS) 1 = nth (fnB plS) 1 := rfl
  conv at eB => { rhs; whnf }
  have eP : plB = plB := rfl
  conv at eP => { rhs; whnf }
  rw [eB]
  dsimp only [plE]
  rw [eS]
  refine wpAny_For ?_
  k_steps
  refine Stop.mk ?_
  (with_reducible rename IsRange _ _ _ _ _ _ _ _ => R9)
  (with_reducible rename News _ _ _ _ => N9)
  (with_reducible rename Fr _ _ _ _ => F9)
  refine it_range (n := 8) R9 rfl (by decide) (by decide) F9 N9 fun it s₂ H => ?_
  refine pl_loop B X T hroom F9 N9 hr (H _ _) ?_
  intro h' tk nb' mx' vs' j' hI F' N'
  dsimp only
  exact hret _ _ _ _ _ _ hI F' N'
end
end Mine

end
section
theorem Mine.resetP3 : True := by
  w_top off
  trivial
open PySem PySem.W PyProof.Rows PySem.Calls PyProof.Rows.LCg
set_option Elab.async false
set_option maxRecDepth 100000
set_option maxHeartbeats 2000000
set_option linter.unusedVariables false
namespace Mine
theorem fillP3 : (PySem.Challenge.rw_wf0014_01, hd.heap_39) = (PySem.Challenge.rw_wf0014_01, hd.heap_39) := by
  k_fill
  rfl
noncomputable def plAt (bs : List UInt8) (i : Nat) : Int := 4 * ((bs.getD (3 * i) 0).toNat : Int) + (2 * ((bs.getD (3 * i + 1) 0).toNat : Int) + ((bs.getD (3 * i + 2) 0).toNat : Int))
theorem ints_snoc' {vs : List Value} {ns : List Int} {n n' : Int} {t : Tok} (h : IntsAre vs ns) (e : n = n') : IntsAre (vs ++ [Value.int n t]) (ns ++ [n']) := e ▸ ints_snoc h
section
variable {w : World} {mean : ExcName → Option Value} {mg mb : Str → Option Value} {A A₀ : Around} {env : Env} {outer : List Env} {base h₀ : Heap} {L : Nat} {m : Str → Option Value} {s : Shared} {Q : Flow → Shared → Prop} {E : Value → Shared → Prop}
  {vs : List Value} {j : Nat} {rest : List (Addr × Obj)} {hnd : Option Value} {dp un : Nat} {gd : Option (List Code)} {oc : Obj} {tb : Tok} {bs : List UInt8}
  {bi nb mx : Option Value}
local macro_rules | `(tactic| walk_at "call ref") => `(tactic| (k_here; (try dsimp only [List.cons_append, List.nil_append]); k_dflt (first
  | ((with_reducible show wpAny _ _ (call (Value.ref 70) [Value.int _ _, Value.int _ _]) _ _ _); refine' add_C ?B ?F ?X ?N ?T ?hA ?hf ?hke ?hr ?_; (case B => k_asm); (case F => k_asm); (case X => k_asm); (case N => k_asm); (case T => k_asm); (case hA => exact rfl); (case hf => exact rfl); (case hke => exact rfl); (case hr => assumption))
  | ((with_reducible show wpAny _ _ (call (Value.ref 91) [Value.int _ _, Value.int _ _]) _ _ _); refine' mul_C ?B ?F ?X ?N ?T ?hA ?hf ?hke ?hr ?hb ?_; (case B => k_asm); (case F => k_asm); (case X => k_asm); (case N => k_asm); (case T => k_asm); (case hA => exact rfl); (case hf => exact rfl); (case hke => exact rfl); (case hr => assumption); (case hb => mul_fits))); intro h' tk' t' F' N'; (try k_sweep)))
theorem pl_ret (B : Below A₀ base outer h₀) (X : (hd.heap_39 w.params).In h₀) (T : Top TP TL mean mg mb h₀) (hroom : dp < recursionLimit)
    (hoc : oc.data = .cell (some (.bytes bs.toArray tb))) (hb : bs.length = 24)
    (F : Fr h₀ L s.heap (plM bi nb mx)) (N : News h₀ L s.heap ((L + 1, oc) :: rest))
    (hret : ∀ h' tk D ys m', IntsAre ys ((List.range 8).map (plAt bs)) → Fr h₀ L h' m' → News h₀ L h' ((D, lst ys) :: (L + 1, oc) :: rest) → (∀ p ∈ rest, p.1 < D) → Q (.ret (.ref D)) { s with heap := h', toks := tk }) :
    wpAny (model PR w) (AA none dp (plE L) outer gd un) (execs ((fnB plS).drop 3) (plE L)) Q E s := by
  have eS : fnS plS = fnS plS := rfl
  conv at eS => { rhs; whnf }
  have eB : (fnB plS).drop 3 = (fnB plS).drop 3 := rfl
  conv at eB => { rhs; whnf }
  rw [eB]
  dsimp only [plE]
  rw [eS]
  k_steps
  refine Stop.mk ?_
  refine ListComp_F (L := L) (m := plM bi nb mx) (h₀ := h₀) rfl (by decide) rfl (by decide) ?_
  k_steps
  (with_reducible rename News _ _ _ _ => N9)
  (with_reducible rename Fr _ _ _ _ => F9)
  (with_reducible rename IsRange _ _ _ _ _ _ _ _ => R9)
  unfold SrcF
  refine it_range (n := 8) R9 rfl (by decide) (by decide) F9 N9 fun it s₂ H => ?_
  refine src_It F9 N9 (H _ _) (fun C => ⟨rfl, rfl⟩) (by simp) (by rw [sizeLine_eq]; decide)
    (fun i ys news => ys.length = i ∧ IntsAre ys ((List.range i).map (plAt bs)) ∧ news = (L + 1, oc) :: rest) ?_ ?_ ?_ ?_ ?_ ?_
  · rintro i ys news ⟨_, _, rfl⟩; rfl
  · rintro i ys news ⟨e, _⟩; exact e
  · exact ⟨rfl, IntsAre.nil, rfl⟩
  · rintro i C oC D m₁ m₂ ys news₁ own h tk E' hi ⟨v, ⟨tv, rfl⟩, rfl⟩ hoC ⟨hl₁, hy₁, rfl⟩ ho hnl hol F₁ N₁
    clear F9 N9 R9 H hret
    have hm2 : up1 (Str.ofString "spot") (.int (0 + (i : Int) * 3) tv) m₁ (Str.ofString "spot") = some (.int (0 + (i : Int) * 3) tv) := rfl
    have hsz : bs.toArray.size ≤ 1099511627776 := by rw [List.size_toArray, hb]; decide
    k_steps
    refine EltPost.mk ((L + 1, oc) :: rest) (by assumption) (by assumption) ⟨?_, ?_, rfl⟩
    · rw [List.length_append, List.length_singleton, hl₁]
    · rw [List.range_succ, List.map_append]
      refine ints_snoc' hy₁ ?_
      unfold plAt
      rw [show (0 + (i : Int) * 3).toNat = 3 * i by omega, show (0 + (i : Int) * 3 + 1).toNat = 3 * i + 1 by omega, show (0 + (i : Int) * 3 + 2).toNat = 3 * i + 2 by omega]
  · rintro D h₂ tk₂ ys news ⟨hl₂, hy₂, rfl⟩ F₂ N₂ hD
    exact hret _ _ D ys _ hy₂ F₂ N₂ (fun p hp => hD p (.tail _ hp))
  · exact fun hp tk h => h
end
end Mine

end
section
theorem Mine.resetP4 : True := by
  w_top off
  trivial
local macro_rules | `(tactic| walk_at "none") => `(tactic| skip)
open PySem PySem.W PyProof.Rows PySem.Calls PyProof.Rows.LCg
set_option Elab.async false
set_option maxRecDepth 100000
set_option maxHeartbeats 2000000
set_option linter.unusedVariables false
namespace Mine
noncomputable def pbs : List UInt8 := (pbits 8).map fun n => n.toNat.toUInt8
theorem places_eq : (List.range 8).map (plAt (swO pbs 3 8)) = [0, 4, 6, 2, 3, 7, 5, 1] := by decide +kernel
theorem pbits_byte : ∀ n ∈ pbits 8, 0 ≤ n ∧ n < 256 := by decide +kernel
theorem plM_0 {bi nb mx : Option Value} {v : Value} : (fun y => if y = Str.ofString "bits" then some v else (none : Option Value)) = plM (some v) none none := by
  funext y
  by_cases h : y = Str.ofString "bits"
  · subst h; rfl
  · simp only [plM, if_neg h]
    (repeat' split) <;> rfl
theorem fillP4 : (PySem.Challenge.rw_wf0014_01, hd.heap_39) = (PySem.Challenge.rw_wf0014_01, hd.heap_39) := by
  k_fill
  rfl
section
variable {w : World} {mean : ExcName → Option Value} {mg mb : Str → Option Value} {A A₀ : Around} {env : Env} {outer : List Env} {base h₀ : Heap} {L : Nat} {m : Str → Option Value} {s : Shared} {Q : Value → Shared → Prop}
  {vs : List Value} {j : Nat} {news rest : List (Addr × Obj)} {hnd : Option Value} {dp un : Nat} {gd : Option (List Code)}
  {bi nb mx : Option Value}
local macro_rules | `(tactic| walk_at "call type:bytes") => `(tactic| refine Stop.go ?_)
theorem places_S (B : Below A₀ base outer h₀) (F : Fr h₀ L s.heap m) (X : (hd.heap_39 w.params).In h₀) (N : News h₀ L s.heap news)
    (T : Top TP TL mean mg mb h₀) (hf : env.frame = some L) (hke : env.scope.kind = .function) (hroom : dp + 20 < recursionLimit)
    (hret : ∀ h' tk' D ys, IntsAre ys [0, 4, 6, 2, 3, 7, 5, 1] → Fr h₀ L h' m → News h₀ L h' ((D, lst ys) :: news) → (∀ p ∈ news, p.1 < D) → Q (.ref D) { s with heap := h', toks := tk' }) :
    wpS (model PR w) (AA none dp env outer gd un) (call (.ref 143) []) Q s := by
  refine wpS_call ?_
  k_dflt (refine' code_defCS ?k1 ?k2 ?k3 ?k4 ?k5 ?kA ?kF ?kK ?k6 ?k7 ?k8 ?k9 ?kB ?kD ?_ ?c2 ?c3 ?c4; (case kA => exact rfl); (case kF => exact hf); (case kK => exact hke); (case k1 => k_asm); (case k2 => k_asm); (case k3 => k_asm); (case k4 => k_asm); (case k5 => k_asm); (case k6 => k_is); (case k7 => k_is); (case k8 => (dsimp only [AA]; omega)); (case k9 => exact BindsTo.of_eq rfl); (case kB => exact fun n x hx => absurd (show x ∈ ([] : List (Str × Value)) from hx) List.not_mem_nil); (case kD => decide +kernel); (case c2 => exact rfl); (case c3 => exact rfl); (case c4 => exact rfl); k_whole; intro g' L' h' tk' cells' FG' F' N' Y' B' X' T' l1; k_cells Y'; (try simp only [List.cons_append, List.nil_append] at N'); (try dsimp only))
  rename_i oc d1
  have hoc : oc.data = .cell none := d1.trans rfl
  clear d1
  have F8 : Fr g' L' h' (fun _ => none) := F'
  clear F'
  have hr : ∀ p ∈ news, p.1 ≠ L' + 1 := fun p hp => Nat.ne_of_lt (Nat.lt_succ_of_lt (l1 p hp))
  refine execs_consS (wpS_any ?_)
  k_steps
  (with_reducible rename News _ _ _ _ => N9)
  (with_reducible rename Fr _ _ _ _ => F9)
  rename_i D9 h0 l9 h9
  dsimp only
  rw [show (fun y => if y = Str.ofString "bits" then some (Value.ref D9) else (none : Option Value)) = plM (some (.ref D9)) none none from plM_0 (bi := none) (nb := none) (mx := none)] at F9
  refine execs_consS (wpS_any ?_)
  refine pl_for (bl := D9) (rest := (L' + 1, oc) :: news) B' X' T' (by dsimp only; omega) F9 N9 ?_ ?_
  · intro p hp
    rcases List.mem_cons.mp hp with rfl | hp
    · exact Nat.ne_of_lt l9.1
    · exact Nat.ne_of_lt (AllLt.mem l9.2 p hp)
  intro h3 tk3 nb3 mx3 vs3 j3 hI3 F3 N3
  dsimp only
  have hbt : L' + 1 ≠ D9 := Nat.ne_of_lt l9.1
  have hl3 : Heap.IsList h3 D9 vs3.toArray := ⟨_, N3.get (.head _), rfl, _, rfl⟩
  refine execs_consS ?_
  refine Assign_CallS rfl ?_
  k_steps
  refine callWith_KS (K := hd.heap_39 w.params) (h₀ := h₀) (by k_is) ?_
  k_steps
  refine Stop.mk ?_
  (with_reducible rename News _ _ _ _ => N4)
  (with_reducible rename Fr _ _ _ _ => F4)
  refine PySem.W.bytes_K F4 N4 ?_ hI3 pbits_byte (by rw [hI3.length, pbits_len, sizeLine_eq]; decide) rfl ?_
  · exact ⟨_, N4.get (.head _), rfl, _, rfl⟩
  intro h5 t5 k5 F5 N5 _
  k_steps
  show wpS _ _ (call (Value.ref 21) [Value.bytes pbs.toArray _, Value.int ((3 : Nat) : Int) _]) _ _
  have hlen : pbs.length = 24 := by decide +kernel
  refine bsw_S (wd := 3) (n := 8) (bs := pbs) B' F5 X' N5 T' rfl rfl (by dsimp only; omega) (by rw [hlen]) (by rw [hlen]; decide) (by decide) (by decide) (by rw [hlen]; decide) (by rw [hlen]; decide) (by decide) (by decide) ?_
  intro h6 tk6 t6 F6 N6
  dsimp only
  have hbt2 : D9 ≠ L' + 1 := Ne.symm hbt
  k_steps
  (with_reducible rename News _ _ _ _ => N7)
  (with_reducible rename Fr _ _ _ _ => F7)
  rename_i d7
  refine wpS_any ?_
  dsimp only
  refine pl_ret (rest := news) B' X' T' (by dsimp only; omega) d7 (swO_len pbs 3 8 ▸ hlen) F7 (fun p hp => N7 p (.tail _ hp)) ?_
  intro h8 tk8 D8 ys8 m8 hI8 F8 N8 lt8
  rw [places_eq] at hI8
  refine leaveK_ F8 N8 fun F₅ N₅ => ?_
  exact ⟨_, rfl, _, rfl, hret _ _ _ _ hI8 F₅ (news_drop1 N₅) lt8⟩
end
end Mine

end
section
theorem Mine.resetR1 : True := by
  w_top off
  trivial
open PySem PySem.W PyProof.Rows PySem.Calls PyProof.Rows.LCg
set_option Elab.async false
set_option maxRecDepth 100000
set_option maxHeartbeats 2000000
namespace Mine
section
variable {prog : Program} {w : World} {A : Around} {E : Value → Shared → Prop} {s : Shared} {h₀ : Heap} {L : Nat} {m : Str → Option Value} {env : Env} {news : List (Addr × Obj)}
theorem forG {R : Result → Shared → Prop} {target : Expr} {body : List Stmt} {I : Addr} {fp : List Addr} {n : Nat} {St : Nat → Heap → Prop} {EnvOk : Env → Prop} {Bd : Nat → (Str → Option Value) → (Str → Option Value) → Prop} {news : List (Addr × Obj)}
    (W : Feed prog w A I fp [I] n St target EnvOk Bd) (hE : EnvOk env) (hLf : env.locals ∉ fp) (hI : h₀.get? I = none) (hthere : ∀ i h, St i h → ∃ o, h.get? I = some o)
    (hst : St 0 s.heap) (F : Fr h₀ env.locals s.heap m) (N : News h₀ env.locals s.heap news) (J : Nat → (Str → Option Value) → List (Addr × Obj) → Prop) (h0 : J 0 m news) (hoff0 : ∀ p ∈ news, p.1 ≠ I)
    (step : ∀ i m₁ mm news₁ own h tk E', i < n → Bd i m₁ mm → J i m₁ news₁ → (∀ p ∈ own, p.1 ∈ fp) → (∃ oI, (I, oI) ∈ own) → (∀ p ∈ news₁, p.1 ≠ I) → Fr h₀ env.locals h mm → News h₀ env.locals h (news₁ ++ own) →
      wpAny (model prog w) A (execs body env) (fun f s' => f = .next ∧ ∃ h' tk' m₂ news₂, s' = { s with heap := h', toks := tk' } ∧ Fr h₀ env.locals h' m₂ ∧ News h₀ env.locals h' (news₂ ++ own) ∧ (∀ p ∈ news₂, p.1 ≠ I) ∧ J (i + 1) m₂ news₂) E' { s with heap := h, toks := tk })
    (hR : ∀ h' tk m' news', Fr h₀ env.locals h' m' → News h₀ env.locals h' news' → J n m' news' → R (.ok .next) { s with heap := h', toks := tk }) :
    codeAny (model prog w) A (.forLoop target (.ref I) body [] env) R s := by
  have hIf : I ∈ fp := W.sub _ (.head _)
  have hLw : env.locals ≠ I := fun h => hLf (h ▸ hIf)
  have nI : ∀ {b : Addr}, b ≠ I → b ∉ [I] := fun h hb => h (List.mem_singleton.mp hb)
  have old : ∀ b o, h₀.get? b = some o → b ≠ I := fun b o e hb => by rw [hb, hI] at e; cases e
  have noL : h₀.get? env.locals = none := Heap.get?_none_of_le F.above
  refine codeAny_forLoop_any
    (fun k s' => ∃ h' tk m' news' i, s' = { s with heap := h', toks := tk } ∧ St i h' ∧ Fr h₀ env.locals h' m' ∧ News h₀ env.locals h' news' ∧ (J i m' news' ∧ ∀ p ∈ news', p.1 ≠ I) ∧ i ≤ n ∧ k = n + 1 - i) ?_ (n + 1)
    ⟨s.heap, s.toks, m, news, 0, rfl, hst, F, N, ⟨h0, hoff0⟩, Nat.zero_le _, rfl⟩
  rintro k s' ⟨h', tk, m', news', i, rfl, hst', F', N', ⟨hJ, hoff⟩, hi, rfl⟩
  by_cases hlt : i < n
  · refine W.item i env m' _ _ _ _ _ _ hlt hE hst' F'.ns hLf fun h₂ tk₂ mm hBd hst₂ hn₂ hk₂ => ?_
    have F₂ : Fr h₀ env.locals h₂ mm := ⟨hn₂, fun b o e => hk₂ b o (fun q => by rw [q, noL] at e; cases e) (nI (old b o e)) (F'.keep b o e), F'.above⟩
    have Nown : News h₀ env.locals h₂ (PyProof.Rows.ownOf h₀ fp h₂) := news_ownOf hLf
    have N₂ : News h₀ env.locals h₂ (news' ++ PyProof.Rows.ownOf h₀ fp h₂) := fun p hp => (List.mem_append.mp hp).elim (fun h => ⟨hk₂ _ _ (N' p h).2.1 (nI (hoff p h)) (N' p h).1, (N' p h).2⟩) fun h => Nown p h
    obtain ⟨oI, hoI⟩ := hthere _ _ hst₂
    refine wpAny_mono (step i m' mm news' _ h₂ tk₂ _ hlt hBd hJ ownOf_sub ⟨oI, mem_ownOf hIf hI hoI⟩ hoff F₂ N₂) (fun f s₃ h₃ => ?_) fun _ _ e => e
    obtain ⟨rfl, h₃', tk₃, m₂, news₂, rfl, F₃, N₃, hoff₃, hJ₃⟩ := h₃
    refine ⟨n + 1 - (i + 1), by omega, h₃', tk₃, m₂, news₂, i + 1, rfl, ?_, F₃, fun p hp => N₃ p (List.mem_append_left _ hp), ⟨hJ₃, hoff₃⟩, hlt, rfl⟩
    refine W.frame _ _ _ hst₂ fun b hb o e => ?_
    cases hn : h₀.get? b with
    | some o₀ =>
      have : o₀ = o := by have := F₂.keep b o₀ hn; rw [e] at this; exact (Option.some.inj this).symm
      exact this ▸ F₃.keep b o₀ hn
    | none => exact (N₃ _ (List.mem_append_right _ (mem_ownOf hb hn e))).1
  · have hin : i = n := by omega
    subst hin
    refine W.done _ _ _ hst' fun h₁ tk₁ hk₁ => wpAny_execs_nil ?_
    exact hR h₁ tk₁ m' news' ⟨F'.ns.at' fun o e => hk₁ _ o (nI hLw) e, fun b o e => hk₁ b o (nI (old b o e)) (F'.keep b o e), F'.above⟩ (fun p hp => ⟨hk₁ _ _ (nI (hoff p hp)) (N' p hp).1, (N' p hp).2⟩) hJ
/-- a source with one object of its own -/
noncomputable def IterO (prog : Program) (w : World) (A : Around) (h₀ : Heap) (L : Addr) (m : Str → Option Value) (news : List (Addr × Obj)) (s : Shared) (ex : List Addr) (n : Nat) (target : Expr) (EnvOk : Env → Prop) (Bd : Nat → (Str → Option Value) → (Str → Option Value) → Prop) (it : Value) (s₂ : Shared) : Prop :=
  ∃ I fp St, it = .ref I ∧ Feed prog w A I fp [I] n St target EnvOk Bd ∧ (∀ i h, St i h → ∃ o, h.get? I = some o) ∧ St 0 s₂.heap ∧ Fr h₀ L s₂.heap m ∧ News h₀ L s₂.heap news ∧ (∀ b ∈ fp, b ∈ ex ∨ b = I) ∧ (∀ p ∈ news, p.1 < I) ∧ s.heap.objs.size ≤ I ∧ ∃ hp tk, s₂ = { s with heap := hp, toks := tk }
theorem for_O {R : Result → Shared → Prop} {target : Expr} {body : List Stmt} {ex : List Addr} {n : Nat} {EnvOk : Env → Prop} {Bd : Nat → (Str → Option Value) → (Str → Option Value) → Prop} {it : Value} {s₂ : Shared} (F₀ : Fr h₀ env.locals s.heap m) (N₀ : News h₀ env.locals s.heap news)
    (H : IterO prog w A h₀ env.locals m news s ex n target EnvOk Bd it s₂) (hE : EnvOk env) (hex : env.locals ∉ ex)
    (J : Nat → (Str → Option Value) → List (Addr × Obj) → Prop) (h0 : J 0 m news)
    (step : ∀ i m₁ mm news₁ own h tk E' I, i < n → Bd i m₁ mm → J i m₁ news₁ → (∀ p ∈ own, p.1 ∈ ex ∨ p.1 = I) → (∃ oI, (I, oI) ∈ own) → (∀ p ∈ news₁, p.1 ≠ I) → (∀ p ∈ news, p.1 < I) → Fr h₀ env.locals h mm → News h₀ env.locals h (news₁ ++ own) →
      wpAny (model prog w) A (execs body env) (fun f s' => f = .next ∧ ∃ h' tk' m₂ news₂, s' = { s with heap := h', toks := tk' } ∧ Fr h₀ env.locals h' m₂ ∧ News h₀ env.locals h' (news₂ ++ own) ∧ (∀ p ∈ news₂, p.1 ≠ I) ∧ J (i + 1) m₂ news₂) E' { s with heap := h, toks := tk })
    (hR : ∀ h' tk m' news', Fr h₀ env.locals h' m' → News h₀ env.locals h' news' → J n m' news' → R (.ok .next) { s with heap := h', toks := tk }) :
    codeAny (model prog w) A (.forLoop target it body [] env) R s₂ := by
  obtain ⟨I, fp, St, rfl, W, hth, hst, F, N, hfp, hnl, hwr, hp, tk, rfl⟩ := H
  refine forG W hE (fun hm => ?_) (fresh_at F₀ I hwr) hth hst F N J h0 (fun p hp => Nat.ne_of_lt (hnl p hp)) ?_ fun h' tk m' news' F N hj => hR h' tk m' news' F N hj
  · rcases hfp _ hm with h | h
    · exact hex h
    · have h1 : @LT.lt Nat _ env.locals s.heap.objs.size := F₀.ns.lt
      rw [h] at h1
      exact Nat.lt_irrefl _ (Nat.lt_of_lt_of_le h1 hwr)
  · intro i m₁ mm news₁ own h tk E' hi hb hj ho hoI hn F N
    exact step i m₁ mm news₁ own h tk E' I hi hb hj (fun p hp => hfp _ (ho p hp)) hoI hn hnl F N
theorem io_list {ax : Nat} {vs : List Value} {Q : Value → Shared → Prop} (hh : A.handled = none) (hl : s.heap.IsList ax vs.toArray) (F : Fr h₀ L s.heap m) (N : News h₀ L s.heap news)
    (h : ∀ it s₂, (∀ x px, IterO prog w A h₀ L m news s [ax] vs.length (.Name x px) (Ok1 x) (Bd1 x fun i v => vs[i]? = some v) it s₂) → Q it s₂) :
    wpAny (model prog w) A (pyIter (.ref ax)) Q E s := by
  have hax : @LT.lt Nat _ ax s.heap.objs.size := by obtain ⟨_, e, _⟩ := hl; exact Heap.lt_size e
  refine wpAny_pyIter_list hl ?_
  have W := Walks.list (prog := prog) (w := w) hh s.heap.objs.size ax (Nat.ne_of_lt hax) vs.toArray
  have W' : Walks prog w A s.heap.objs.size [s.heap.objs.size, ax] [s.heap.objs.size] vs.length (fun i v => vs[i]? = some v) (fun i h => h.IsListIter s.heap.objs.size ax i ∧ h.IsList ax vs.toArray) := by simpa using W
  refine h _ _ fun x px => ⟨_, _, _, rfl, Feed.name W', ?_, ⟨⟨_, Heap.get?_push_size _ rfl, rfl, rfl⟩, hl.at fun o e => Heap.get?_push_of_some _ e⟩, ?_, ?_, ?_, ?_, Nat.le_refl _, _, _, rfl⟩
  · rintro i h' ⟨⟨o, e, _⟩, _⟩; exact ⟨o, e⟩
  · show Fr h₀ L (s.heap.push _) m; exact F.push _
  · exact fun p hp => ⟨Heap.get?_push_of_some _ (N p hp).1, (N p hp).2⟩
  · intro b hb
    rcases List.mem_cons.mp hb with rfl | hb
    · exact .inr rfl
    · exact .inl hb
  · exact fun p hp => Heap.lt_size (N p hp).1
theorem io_range {r : Addr} {a b c : Int} {t u v : Tok} {n : Nat} {Q : Value → Shared → Prop} (hr : IsRange s.heap r a b c t u v) (hh : A.handled = none) (hsmall : Builtin.Range.small a b c = true) (hn : Builtin.Range.rangeSize a b c = (n : Int)) (F : Fr h₀ L s.heap m) (N : News h₀ L s.heap news)
    (h : ∀ it s₂, (∀ x px, IterO prog w A h₀ L m news s [] n (.Name x px) (Ok1 x) (Bd1 x fun i v => ∃ t, v = .int (a + i * c) t) it s₂) → Q it s₂) :
    wpAny (model prog w) A (pyIter (.ref r)) Q E s := by
  refine wpAny_pyIter_range hr hsmall ?_
  have W := Walks.range (prog := prog) (w := w) (A := A) hh s.heap.objs.size a c n
  refine h _ _ fun x px => ⟨_, _, _, rfl, Feed.name W, ?_, (by show IsRangeIter _ _ _ _ _; rw [hn]; simpa using Heap.get?_push_size _ rfl), ?_, ?_, ?_, ?_, Nat.le_refl _, _, _, rfl⟩
  · intro i h' e
    exact ⟨_, e⟩
  · show Fr h₀ L (s.heap.push _) m; exact F.push _
  · exact fun p hp => ⟨Heap.get?_push_of_some _ (N p hp).1, (N p hp).2⟩
  · intro b hb
    exact .inr (List.mem_singleton.mp hb)
  · exact fun p hp => Heap.lt_size (N p hp).1
end
end Mine

end
section
theorem Mine.resetR2 : True := by
  w_top off
  trivial
open PySem PySem.W PyProof.Rows PySem.Calls PyProof.Rows.LCg
set_option Elab.async false
set_option maxRecDepth 100000
set_option maxHeartbeats 2000000
set_option linter.unusedVariables false
namespace Mine
theorem fillR2 : (PySem.Challenge.rw_wf0014_01, hd.heap_39) = (PySem.Challenge.rw_wf0014_01, hd.heap_39) := by
  k_fill
  rfl
noncomputable def rwS : Stmt := topS 19
noncomputable abbrev rwE (L : Addr) : Env := envOf (Str.ofString "_law_rows") (fnS rwS) L 153 (.ref 152)
noncomputable abbrev rwM (rw tn gr ro mi : Option Value) : Str → Option Value := fun y => if y = Str.ofString "row" then ro else if y = Str.ofString "mirror" then mi else if y = Str.ofString "grown" then gr else if y = Str.ofString "turn" then tn else if y = Str.ofString "rows" then rw else none
noncomputable def rwT : List Stmt := fnB (nth (fnB rwS) 1)
noncomputable def rwB : List Stmt := fnB (nth rwT 1)
theorem rwM_mi {rw tn gr ro mi : Option Value} {v : Value} : (fun y => if y = Str.ofString "mirror" then some v else rwM rw tn gr ro mi y) = rwM rw tn gr ro (some v) := by
  funext y
  by_cases h : y = Str.ofString "mirror"
  · subst h; rfl
  · simp only [rwM, if_neg h]
theorem rwM_ro {rw tn gr ro mi : Option Value} {v : Value} : up1 (Str.ofString "row") v (rwM rw tn gr ro mi) = rwM rw tn gr (some v) mi := by
  funext y
  by_cases h : y = Str.ofString "row"
  · subst h; rfl
  · simp only [up1, rwM, if_neg h]
theorem rwM_tn {rw tn gr ro mi : Option Value} {v : Value} : up1 (Str.ofString "turn") v (rwM rw tn gr ro mi) = rwM rw (some v) gr ro mi := by
  funext y
  by_cases h : y = Str.ofString "turn"
  · subst h; rfl
  · simp only [up1, rwM, if_neg h]
theorem rwM_gr {rw tn gr ro mi : Option Value} {v : Value} : (fun y => if y = Str.ofString "grown" then some v else rwM rw tn gr ro mi y) = rwM rw tn (some v) ro mi := by
  funext y
  by_cases h : y = Str.ofString "grown"
  · subst h; rfl
  · simp only [rwM, if_neg h]
theorem rwM_rw {rw tn gr ro mi : Option Value} {v : Value} : (fun y => if y = Str.ofString "rows" then some v else rwM rw tn gr ro mi y) = rwM (some v) tn gr ro mi := by
  funext y
  by_cases h : y = Str.ofString "rows"
  · subst h; rfl
  · simp only [rwM, if_neg h]
section
variable {w : World} {mean : ExcName → Option Value} {mg mb : Str → Option Value} {A A₀ : Around} {env : Env} {outer : List Env} {base h₀ : Heap} {L : Nat} {m : Str → Option Value} {s : Shared} {Q : Flow → Shared → Prop} {E : Value → Shared → Prop}
  {G r jg jr : Nat} {gvs rvs : List Value} {rest : List (Addr × Obj)} {hnd : Option Value} {dp un : Nat} {gd : Option (List Code)}
  {rw tn gr ro mi : Option Value}
local macro_rules | `(tactic| walk_at "binaryOp Add ref ref") => `(tactic| refine Stop.go ?_)
theorem rw_B {q : List Int} (B : Below A₀ base outer h₀) (X : (hd.heap_39 w.params).In h₀) (T : Top TP TL mean mg mb h₀) (hroom : dp < recursionLimit)
    (F : Fr h₀ L s.heap (rwM rw tn (some (.ref G)) (some (.ref r)) mi))
    (N : News h₀ L s.heap ((G, listOf gvs.toArray jg) :: (r, listOf rvs.toArray jr) :: rest)) (hI : IntsAre rvs q) (hl : rvs.length < 900) (hg : gvs.length < 900) (hGr : r ≠ G) (hr : ∀ p ∈ rest, p.1 ≠ G) (hrL : r ≠ L)
    (hret : ∀ h' tk' (a b : Nat) us ws mi', IntsAre us (q ++ q.reverse) → IntsAre ws (q ++ q.reverse.map fun x => -x) → G < a ∧ r < a ∧ G < b ∧ r < b → (∀ p ∈ rest, p.1 < a ∧ p.1 < b) → Fr h₀ L h' (rwM rw tn (some (.ref G)) (some (.ref r)) mi') →
      News h₀ L h' ((b, listOf (List.toArray ws) 0) :: (a, listOf (List.toArray us) 0) :: (G, listOf (gvs ++ [Value.ref a, Value.ref b]).toArray (jg + 2)) :: (r, listOf rvs.toArray jr) :: rest) → Q .next { s with heap := h', toks := tk' }) :
    wpAny (model PR w) (AA none dp (rwE L) outer gd un) (execs rwB (rwE L)) Q E s := by
  have eS : fnS rwS = fnS rwS := rfl
  conv at eS => { rhs; whnf }
  have eB : rwB = rwB := rfl
  conv at eB => { rhs; whnf }
  rw [eB]
  dsimp only [rwE]
  rw [eS]
  k_steps
  refine Stop.mk ?_
  (with_reducible rename News _ _ _ _ => N9)
  (with_reducible rename Fr _ _ _ _ => F9)
  rename_i D9 wm9 h9 hI9 hC9 l9 h9'
  rw [rwM_mi] at F9
  have hlen := hI.length
  refine kmk_add_ints (vs := rvs) (ws := wm9) F9 N9 ?_ ?_ hI hI9 ?_ ?_
  · exact N9.isList (.tail _ (.tail _ (.head _)))
  · exact N9.isList (.head _)
  rotate_left
  · rw [List.length_reverse, sizeLine_eq]; omega
  intro a us h5 F5 N5 l5 hI5
  have la0 : D9 < a := l5 _ (.head _)
  have la1 : G < a := l5 _ (.tail _ (.head _))
  have la2 : r < a := l5 _ (.tail _ (.tail _ (.head _)))
  have la3 : ∀ p ∈ rest, p.1 < a := fun p hp => l5 p (.tail _ (.tail _ (.tail _ hp)))
  clear l5
  have g1 : a ≠ G := Nat.ne_of_gt la1
  have g2 : D9 ≠ G := Nat.ne_of_gt l9.1
  k_steps
  refine Stop.mk ?_
  (with_reducible rename News _ _ _ _ => N6)
  (with_reducible rename Fr _ _ _ _ => F6)
  refine ListComp_F (L := L) (m := rwM rw tn (some (.ref G)) (some (.ref r)) (some (.ref D9))) (h₀ := h₀) rfl (by decide) rfl (by decide) ?_
  k_steps
  unfold SrcF
  (with_reducible rename News _ _ _ _ => N6)
  (with_reducible rename Fr _ _ _ _ => F6)
  have lD : L ≠ D9 := fun e => (N6.get (.tail _ (.head _)) |> fun _ => (N6 _ (.tail _ (.head _))).2.1) e.symm
  refine it_list rfl (N6.isList (.tail _ (.head _))) F6 N6 fun it s₂ H => ?_
  rw [hI9.length, List.length_reverse] at H
  refine src_It F6 N6 (H _ _) (fun C => ⟨rfl, rfl⟩) (fun e => lD (List.mem_singleton.mp e)) (by rw [sizeLine_eq]; omega)
    (fun i ys news => ys.length = i ∧ IntsAre ys ((q.reverse.take i).map fun x => -x) ∧ news = (a, listOf us.toArray 0) :: (D9, listOf wm9.toArray 0) :: (G, listOf (gvs.toArray.push (.ref a)) (jg + 1)) :: (r, listOf rvs.toArray jr) :: rest) ?_ ?_ ?_ ?_ ?_ ?_
  · rintro i ys news ⟨_, _, rfl⟩; rfl
  · rintro i ys news ⟨e, _⟩; exact e
  · exact ⟨rfl, IntsAre.nil, rfl⟩
  · rintro i C oC D m₁ m₂ ys news₁ own h tk E' hi ⟨v, hv, rfl⟩ hoC ⟨hl₁, hy₁, rfl⟩ ho hnl hol F₁ N₁
    obtain ⟨p, tp, hp, rfl⟩ := ints_at hI9 hv
    clear F6 N6 H hret ho hnl hol
    have hm2 : up1 (Str.ofString "sign") (Value.int p tp) m₁ (Str.ofString "sign") = some (Value.int p tp) := rfl
    k_steps
    refine EltPost.mk ((a, listOf us.toArray 0) :: (D9, listOf wm9.toArray 0) :: (G, listOf (gvs.toArray.push (.ref a)) (jg + 1)) :: (r, listOf rvs.toArray jr) :: rest) (by assumption) (by assumption) ⟨?_, ?_, rfl⟩
    · rw [List.length_append, List.length_singleton, hl₁]
    · rw [List.take_add_one, hp, Option.toList_some, List.map_append]
      exact ints_snoc hy₁
  · rintro C h₂ tk₂ ys news ⟨hl₂, hy₂, rfl⟩ F₂ N₂ hD
    rw [← List.length_reverse, List.take_length] at hy₂
    clear F6 N6 H
    have lCa : a < C := hD _ (.head _)
    have lCG : G < C := hD _ (.tail _ (.tail _ (.head _)))
    have lCr : r < C := hD _ (.tail _ (.tail _ (.tail _ (.head _))))
    have lCe : ∀ p ∈ rest, p.1 < C := fun p hp => hD _ (.tail _ (.tail _ (.tail _ (.tail _ hp))))
    clear hD
    have hlc := hy₂.length
    rw [List.length_map, List.length_reverse] at hlc
    refine kmk_add_ints (vs := rvs) (ws := ys) F₂ N₂ ?_ ?_ hI hy₂ ?_ ?_
    · exact ⟨_, N₂.get (.tail _ (.tail _ (.tail _ (.tail _ (.head _))))), rfl, _, rfl⟩
    · exact ⟨_, N₂.get (.head _), rfl, _, rfl⟩
    rotate_left
    · rw [List.length_map, List.length_reverse, sizeLine_eq]; omega
    intro b ws h7 F7 N7 l7 hI7
    have lb1 : C < b := l7 _ (.head _)
    clear l7
    have g3 : C ≠ G := Nat.ne_of_gt lCG
    have g4 : b ≠ G := Nat.ne_of_gt (Nat.lt_trans lCG lb1)
    dsimp only
    k_steps
    (with_reducible rename News _ _ _ _ => N8)
    (with_reducible rename Fr _ _ _ _ => F8)
    refine hret _ _ a b us ws _ hI5 hI7 ⟨la1, la2, Nat.lt_trans lCG lb1, Nat.lt_trans lCr lb1⟩ (fun p hp => ⟨la3 p hp, Nat.lt_trans (lCe p hp) lb1⟩) F8 (news_perm N8 ?_)
    intro p hp
    rw [show (gvs ++ [Value.ref a, Value.ref b]).toArray = (gvs.toArray.push (Value.ref a)).push (Value.ref b) by simp] at hp
    simp only [List.mem_cons] at hp ⊢
    rcases hp with h | h | h | h | h <;> simp only [h, true_or, or_true]
  · exact fun hp tk h => h
end
end Mine

end
section
theorem Mine.resetR3 : True := by
  w_top off
  trivial
open PySem PySem.W PyProof.Rows PySem.Calls PyProof.Rows.LCg
set_option Elab.async false
set_option maxRecDepth 100000
set_option maxHeartbeats 2000000
set_option linter.unusedVariables false
namespace Mine
theorem fillR3 : (PySem.Challenge.rw_wf0014_01, hd.heap_39) = (PySem.Challenge.rw_wf0014_01, hd.heap_39) := by
  k_fill
  rfl
noncomputable abbrev Ent := Nat × List Value × Nat
noncomputable def RowsL (es : List Ent) : List (Addr × Obj) := es.map fun e => (e.1, listOf e.2.1.toArray e.2.2)
noncomputable def refsE (es : List Ent) : List Value := es.map fun e => Value.ref e.1
noncomputable def RI : List Ent → List (List Int) → Prop
  | [], [] => True
  | e :: es, q :: qs => IntsAre e.2.1 q ∧ RI es qs
  | _, _ => False
theorem RI.len : ∀ {es : List Ent} {qs : List (List Int)}, RI es qs → es.length = qs.length
  | [], [], _ => rfl
  | _ :: _, _ :: _, h => by rw [List.length_cons, List.length_cons, RI.len h.2]
  | [], _ :: _, h => h.elim
  | _ :: _, [], h => h.elim
theorem RI.at : ∀ {es : List Ent} {qs : List (List Int)} {i : Nat} {e : Ent}, RI es qs → es[i]? = some e → ∃ q, qs[i]? = some q ∧ IntsAre e.2.1 q
  | e :: _, q :: _, 0, _, h, he => by cases he; exact ⟨q, rfl, h.1⟩
  | _ :: _, _ :: _, i + 1, _, h, he => RI.at (i := i) h.2 he
  | [], [], _, _, _, he => by simp at he
  | [], _ :: _, _, _, h, _ => h.elim
  | _ :: _, [], _, _, h, _ => h.elim
theorem RI.app : ∀ {es es' : List Ent} {qs qs' : List (List Int)}, RI es qs → RI es' qs' → RI (es ++ es') (qs ++ qs')
  | [], _, [], _, _, h' => h'
  | _ :: _, _, _ :: _, _, h, h' => ⟨h.1, RI.app h.2 h'⟩
  | [], _, _ :: _, _, h, _ => h.elim
  | _ :: _, _, [], _, h, _ => h.elim
noncomputable def grow1 (q : List Int) : List (List Int) := [q ++ q.reverse, q ++ q.reverse.map fun x => -x]
noncomputable def grow (qs : List (List Int)) : List (List Int) := qs.flatMap grow1
noncomputable def growN : Nat → List (List Int)
  | 0 => [[1]]
  | n + 1 => grow (growN n)
theorem grow_take (qs : List (List Int)) {i : Nat} {q : List Int} (h : qs[i]? = some q) : grow (qs.take (i + 1)) = grow (qs.take i) ++ grow1 q := by
  unfold grow
  rw [List.take_add_one, h, List.flatMap_append]
  simp
theorem grow_len (qs : List (List Int)) : (grow qs).length = 2 * qs.length := by
  unfold grow
  induction qs with
  | nil => rfl
  | cons q r ih => rw [List.flatMap_cons, List.length_append, ih]; simp [grow1]; omega
theorem mem_rows {es : List Ent} {i : Nat} {e : Ent} (h : es[i]? = some e) : (e.1, listOf e.2.1.toArray e.2.2) ∈ RowsL es := List.mem_map.mpr ⟨e, List.mem_of_getElem? h, rfl⟩
section
variable {w : World} {mean : ExcName → Option Value} {mg mb : Str → Option Value} {A A₀ : Around} {env : Env} {outer : List Env} {base h₀ : Heap} {L : Nat} {m : Str → Option Value} {s : Shared} {Q : Flow → Shared → Prop} {E : Value → Shared → Prop}
  {G R jg jr : Nat} {es : List Ent} {rest : List (Addr × Obj)} {hnd : Option Value} {dp un : Nat} {gd : Option (List Code)}
  {rw tn gr ro mi : Option Value}
theorem rw_loop {Rz : Result → Shared → Prop} {px : Pos} {it : Value} {s₂ : Shared} {qs : List (List Int)} (B : Below A₀ base outer h₀) (X : (hd.heap_39 w.params).In h₀) (T : Top TP TL mean mg mb h₀) (hroom : dp < recursionLimit)
    (F : Fr h₀ L s.heap (rwM rw tn (some (.ref G)) ro mi)) (N : News h₀ L s.heap ((G, listOf ([] : List Value).toArray jg) :: (R, listOf (refsE es).toArray jr) :: (RowsL es ++ rest)))
    (hI : RI es qs) (hq : ∀ q ∈ qs, q.length < 400) (hql : qs.length < 400) (hRG : R ≠ G) (heG : ∀ p ∈ RowsL es, p.1 ≠ G) (hr : ∀ p ∈ rest, p.1 ≠ G)
    (H : IterO PR w (AA none dp (rwE L) outer gd un) h₀ L (rwM rw tn (some (.ref G)) ro mi) ((G, listOf ([] : List Value).toArray jg) :: (R, listOf (refsE es).toArray jr) :: (RowsL es ++ rest)) s [R] es.length (.Name (Str.ofString "row") px) (Ok1 (Str.ofString "row")) (Bd1 (Str.ofString "row") fun k v => (refsE es)[k]? = some v) it s₂)
    (hR : ∀ h' tk gs jg' ro' mi', RI gs (grow qs) → (∀ p ∈ RowsL gs, ∀ p' ∈ rest, p'.1 < p.1) → Fr h₀ L h' (rwM rw tn (some (.ref G)) ro' mi') → News h₀ L h' ((G, listOf (refsE gs).toArray jg') :: (RowsL gs ++ rest)) → Rz (.ok .next) { s with heap := h', toks := tk }) :
    codeAny (model PR w) (AA none dp (rwE L) outer gd un) (.forLoop (.Name (Str.ofString "row") px) it rwB [] (rwE L)) Rz s₂ := by
  have hRL : R ≠ L := (N _ (.tail _ (.head _))).2.1
  refine for_O (env := rwE L) F N H ⟨rfl, rfl⟩ (fun e => hRL (List.mem_singleton.mp e).symm)
    (fun i m news => ∃ ro' mi' gs jg', m = rwM rw tn (some (.ref G)) ro' mi' ∧ RI gs (grow (qs.take i)) ∧ (∀ p ∈ RowsL gs, p.1 ≠ G ∧ ∀ p' ∈ rest, p'.1 < p.1) ∧ news = (G, listOf (refsE gs).toArray jg') :: (RowsL gs ++ ((R, listOf (refsE es).toArray jr) :: (RowsL es ++ rest)))) ?_ ?_ ?_
  · exact ⟨ro, mi, [], jg, rfl, trivial, (fun p hp => nomatch hp), rfl⟩
  · rintro i m₁ mm news₁ own h tk E' I hi ⟨v, hv, rfl⟩ ⟨ro', mi', gs, jg', rfl, hg, hgG, rfl⟩ ho ⟨oI, hoI⟩ hn hnI F₁ N₁
    obtain ⟨e, he⟩ : ∃ e, es[i]? = some e := ⟨es[i], List.getElem?_eq_getElem hi⟩
    have hv' : v = .ref e.1 := by
      rw [show refsE es = es.map fun e => Value.ref e.1 from rfl, List.getElem?_map, he] at hv
      exact (Option.some.inj hv).symm
    subst hv'
    obtain ⟨q, hqi, hIe⟩ := hI.at he
    have hqm : q ∈ qs := List.mem_of_getElem? hqi
    have hme := mem_rows he
    have hGI : G < I := hnI _ (.head _)
    rw [rwM_ro] at F₁
    have hgl := hg.len
    rw [grow_len, List.length_take] at hgl
    have hil : i < qs.length := by rw [← hI.len]; exact hi
    refine rw_B (r := e.1) (rvs := e.2.1) (jr := e.2.2) (gvs := refsE gs) (jg := jg') (q := q) (rest := (RowsL gs ++ ((R, listOf (refsE es).toArray jr) :: (RowsL es ++ rest))) ++ own) B X T hroom F₁ (news_perm N₁ ?_) hIe (by rw [hIe.length]; have := hq q hqm; omega) (by rw [refsE, List.length_map, hgl]; omega) (heG _ hme) ?_ (fun e1 => (N _ (.tail _ (.tail _ (List.mem_append_left _ hme)))).2.1 e1) ?_
    · intro p hp
      simp only [List.mem_cons, List.mem_append] at hp ⊢
      rcases hp with h | h | h
      · exact .inl (.inl h)
      · subst h; exact .inl (.inr (.inr (.inr (.inl hme))))
      · rcases h with h | h
        · exact .inl (.inr h)
        · exact .inr h
    · intro p hp
      simp only [List.mem_cons, List.mem_append] at hp
      rcases hp with (h | h | h | h) | h
      · exact (hgG p h).1
      · subst h; exact hRG
      · exact heG p h
      · exact hr p h
      · rcases ho p h with h1 | h1
        · rw [List.mem_singleton.mp h1]; exact hRG
        · rw [h1]; exact Nat.ne_of_gt hGI
    · intro h' tk' a b us ws mi'' hu hw lab lrest F' N'
      have hIa : I < a ∧ I < b := lrest _ (List.mem_append_right _ hoI)
      refine ⟨rfl, h', tk', _, (G, listOf (refsE (gs ++ [(a, us, 0), (b, ws, 0)])).toArray (jg' + 2)) :: (RowsL (gs ++ [(a, us, 0), (b, ws, 0)]) ++ ((R, listOf (refsE es).toArray jr) :: (RowsL es ++ rest))), rfl, F', news_perm N' ?_, ?_, _, _, gs ++ [(a, us, 0), (b, ws, 0)], jg' + 2, rfl, ?_, ?_, rfl⟩
      · intro p hp
        rw [show refsE (gs ++ [(a, us, 0), (b, ws, 0)]) = refsE gs ++ [Value.ref a, Value.ref b] by simp [refsE], show RowsL (gs ++ [(a, us, 0), (b, ws, 0)]) = RowsL gs ++ [(a, listOf (List.toArray us) 0), (b, listOf (List.toArray ws) 0)] by simp [RowsL]] at hp
        simp only [List.mem_cons, List.mem_append, List.not_mem_nil, or_false] at hp ⊢
        rcases hp with (h | ((h | h | h) | h | h | h)) | h <;> simp only [h, true_or, or_true]
      · intro p hp
        rw [show RowsL (gs ++ [(a, us, 0), (b, ws, 0)]) = RowsL gs ++ [(a, listOf (List.toArray us) 0), (b, listOf (List.toArray ws) 0)] by simp [RowsL]] at hp
        simp only [List.mem_cons, List.mem_append, List.not_mem_nil, or_false] at hp
        rcases hp with h | ((h | h | h) | h | h | h)
        · subst h; exact Nat.ne_of_lt hGI
        · exact hn p (.tail _ (List.mem_append_left _ h))
        · subst h; exact Nat.ne_of_gt hIa.1
        · subst h; exact Nat.ne_of_gt hIa.2
        · subst h; exact hn _ (.tail _ (List.mem_append_right _ (.head _)))
        · exact hn p (.tail _ (List.mem_append_right _ (.tail _ (List.mem_append_left _ h))))
        · exact hn p (.tail _ (List.mem_append_right _ (.tail _ (List.mem_append_right _ h))))
      · rw [grow_take qs hqi]
        exact hg.app ⟨hu, hw, trivial⟩
      · intro p hp
        rw [show RowsL (gs ++ [(a, us, 0), (b, ws, 0)]) = RowsL gs ++ [(a, listOf (List.toArray us) 0), (b, listOf (List.toArray ws) 0)] by simp [RowsL]] at hp
        simp only [List.mem_cons, List.mem_append, List.not_mem_nil, or_false] at hp
        rcases hp with h | h | h
        · exact hgG p h
        · subst h; exact ⟨Nat.ne_of_gt lab.1, fun p' hp' => (lrest p' (List.mem_append_left _ (List.mem_append_right _ (.tail _ (List.mem_append_right _ hp'))))).1⟩
        · subst h; exact ⟨Nat.ne_of_gt lab.2.2.1, fun p' hp' => (lrest p' (List.mem_append_left _ (List.mem_append_right _ (.tail _ (List.mem_append_right _ hp'))))).2⟩
  · rintro h' tk m' news' F' N' ⟨ro', mi', gs, jg', rfl, hg, hgG, rfl⟩
    rw [hI.len, List.take_length] at hg
    refine hR h' tk gs jg' ro' mi' hg (fun p hp => (hgG p hp).2) F' (news_perm N' ?_)
    intro p hp
    simp only [List.mem_cons, List.mem_append] at hp ⊢
    rcases hp with h | h | h <;> simp only [h, true_or, or_true]
end
end Mine

end
section
theorem Mine.resetR4 : True := by
  w_top off
  trivial
open PySem PySem.W PyProof.Rows PySem.Calls PyProof.Rows.LCg
set_option Elab.async false
set_option maxRecDepth 100000
set_option maxHeartbeats 2000000
set_option linter.unusedVariables false
namespace Mine
theorem fillR4 : (PySem.Challenge.rw_wf0014_01, hd.heap_39) = (PySem.Challenge.rw_wf0014_01, hd.heap_39) := by
  k_fill
  rfl
section
variable {w : World} {mean : ExcName → Option Value} {mg mb : Str → Option Value} {A A₀ : Around} {env : Env} {outer : List Env} {base h₀ : Heap} {L : Nat} {m : Str → Option Value} {s : Shared} {Q : Flow → Shared → Prop} {E : Value → Shared → Prop}
  {G R jg jr : Nat} {es : List Ent} {rest : List (Addr × Obj)} {hnd : Option Value} {dp un : Nat} {gd : Option (List Code)}
  {rw tn gr ro mi : Option Value}
theorem rw_T {qs : List (List Int)} (B : Below A₀ base outer h₀) (X : (hd.heap_39 w.params).In h₀) (T : Top TP TL mean mg mb h₀) (hroom : dp < recursionLimit)
    (F : Fr h₀ L s.heap (rwM (some (.ref R)) tn gr ro mi)) (N : News h₀ L s.heap ((R, listOf (refsE es).toArray jr) :: (RowsL es ++ rest)))
    (hI : RI es qs) (hq : ∀ q ∈ qs, q.length < 400) (hql : qs.length < 400)
    (hret : ∀ h' tk G gs jg' gr' ro' mi', RI gs (grow qs) → Fr h₀ L h' (rwM (some (.ref G)) tn gr' ro' mi') → News h₀ L h' ((G, listOf (refsE gs).toArray jg') :: (RowsL gs ++ rest)) → (∀ p ∈ rest, p.1 < G) → (∀ p ∈ RowsL gs, ∀ p' ∈ rest, p'.1 < p.1) → Q .next { s with heap := h', toks := tk }) :
    wpAny (model PR w) (AA none dp (rwE L) outer gd un) (execs rwT (rwE L)) Q E s := by
  have eS : fnS rwS = fnS rwS := rfl
  conv at eS => { rhs; whnf }
  have eB : rwT = rwT := rfl
  conv at eB => { rhs; whnf }
  rw [eB]
  dsimp only [rwE]
  rw [eS]
  generalize hrt : RowsL es ++ rest = rest1 at N
  k_steps
  refine Stop.mk ?_
  (with_reducible rename News _ _ _ _ => N9)
  (with_reducible rename Fr _ _ _ _ => F9)
  rename_i G h9 l9 h9'
  rw [rwM_gr] at F9
  subst hrt
  have lG : ∀ p ∈ RowsL es ++ rest, p.1 < G := AllLt.mem l9.2
  refine io_list rfl (N9.isList (.tail _ (.head _))) F9 N9 fun it s₂ H => ?_
  rw [show (refsE es).length = es.length by rw [refsE, List.length_map]] at H
  refine rw_loop B X T hroom F9 N9 hI hq hql (Nat.ne_of_lt l9.1) (fun p hp => Nat.ne_of_lt (lG p (List.mem_append_left _ hp))) (fun p hp => Nat.ne_of_lt (lG p (List.mem_append_right _ hp))) (H _ _) ?_
  intro h3 tk3 gs jg3 ro3 mi3 hg3 hgl3 F3 N3
  clear F9 N9 H
  dsimp only
  generalize hrt2 : RowsL gs ++ rest = rest2 at N3
  k_steps
  (with_reducible rename Fr _ _ _ _ => F5)
  subst hrt2
  rw [rwM_rw] at F5
  exact hret _ _ G gs jg3 _ _ _ hg3 F5 (by assumption) (fun p hp => lG p (List.mem_append_right _ hp)) hgl3
theorem growN_small : ∀ i, i < 4 → (∀ q ∈ growN i, q.length < 400) ∧ (growN i).length < 400 := by
  intro i hi
  match i, hi with
  | 0, _ => decide
  | 1, _ => decide
  | 2, _ => decide
  | 3, _ => decide
noncomputable def TurnBody (w : World) (h₀ : Heap) (L : Nat) (A : Around) : Prop :=
  ∀ (s : Shared) (E : Value → Shared → Prop) (R jr : Nat) (es : List Ent) (rest : List (Addr × Obj)) (i : Nat) (tn gr ro mi : Option Value), i < 3 → Fr h₀ L s.heap (rwM (some (.ref R)) tn gr ro mi) → News h₀ L s.heap ((R, listOf (refsE es).toArray jr) :: (RowsL es ++ rest)) → RI es (growN i) →
    wpAny (model PR w) A (execs rwT (rwE L)) (fun f s' => f = .next ∧ ∃ h' tk G gs jg' gr' ro' mi', s' = { s with heap := h', toks := tk } ∧ RI gs (growN (i + 1)) ∧ Fr h₀ L h' (rwM (some (.ref G)) tn gr' ro' mi') ∧ News h₀ L h' ((G, listOf (refsE gs).toArray jg') :: (RowsL gs ++ rest)) ∧ (∀ p ∈ rest, p.1 < G) ∧ ∀ p ∈ RowsL gs, ∀ p' ∈ rest, p'.1 < p.1) E s
theorem rw_TB (B : Below A₀ base outer h₀) (X : (hd.heap_39 w.params).In h₀) (T : Top TP TL mean mg mb h₀) (hroom : dp < recursionLimit) : TurnBody w h₀ L (AA none dp (rwE L) outer gd un) :=
  fun s E R jr es rest i tn gr ro mi hi F N hI => rw_T B X T hroom F N hI (growN_small i (by omega)).1 (growN_small i (by omega)).2 fun h' tk G gs jg' gr' ro' mi' hg F' N' l' l2 => ⟨rfl, h', tk, G, gs, jg', gr', ro', mi', rfl, hg, F', N', l', l2⟩
theorem rt_loop {Rz : Result → Shared → Prop} {px : Pos} {it : Value} {s₂ : Shared} {A : Around} (hb : TurnBody w h₀ L A)
    (F : Fr h₀ L s.heap (rwM (some (.ref R)) tn gr ro mi)) (N : News h₀ L s.heap ((R, listOf (refsE es).toArray jr) :: (RowsL es ++ rest))) (hI : RI es (growN 0))
    (H : IterO PR w A h₀ L (rwM (some (.ref R)) tn gr ro mi) ((R, listOf (refsE es).toArray jr) :: (RowsL es ++ rest)) s [] 3 (.Name (Str.ofString "turn") px) (Ok1 (Str.ofString "turn")) (Bd1 (Str.ofString "turn") fun k v => ∃ t, v = .int (0 + (k : Int) * 1) t) it s₂)
    (hR : ∀ h' tk R' gs jr' tn' gr' ro' mi', RI gs (growN 3) → Fr h₀ L h' (rwM (some (.ref R')) tn' gr' ro' mi') → News h₀ L h' ((R', listOf (refsE gs).toArray jr') :: (RowsL gs ++ rest)) → Rz (.ok .next) { s with heap := h', toks := tk }) :
    codeAny (model PR w) A (.forLoop (.Name (Str.ofString "turn") px) it rwT [] (rwE L)) Rz s₂ := by
  refine for_O (env := rwE L) F N H ⟨rfl, rfl⟩ (by simp)
    (fun i m news => ∃ R' gs jr' tn' gr' ro' mi', m = rwM (some (.ref R')) tn' gr' ro' mi' ∧ RI gs (growN i) ∧ news = (R', listOf (refsE gs).toArray jr') :: (RowsL gs ++ rest)) ?_ ?_ ?_
  · exact ⟨R, es, jr, tn, gr, ro, mi, rfl, hI, rfl⟩
  · rintro i m₁ mm news₁ own h tk E' I hi ⟨v, hv, rfl⟩ ⟨R', gs, jr', tn', gr', ro', mi', rfl, hg, rfl⟩ ho ⟨oI, hoI⟩ hn hnI F₁ N₁
    rw [rwM_tn] at F₁
    refine wpAny_mono (hb { s with heap := h, toks := tk } E' R' jr' gs (rest ++ own) i (some v) gr' ro' mi' hi F₁ (news_perm N₁ fun p hp => by simpa [List.append_assoc] using hp) hg) ?_ fun _ _ e => e
    rintro f s' ⟨rfl, h', tk', G, gs', jg', gr'', ro'', mi'', rfl, hg', F', N', l', l2⟩
    refine ⟨rfl, h', tk', _, (G, listOf (refsE gs').toArray jg') :: (RowsL gs' ++ rest), rfl, F', news_perm N' (fun p hp => by simpa [List.append_assoc] using hp), ?_, G, gs', jg', some v, gr'', ro'', mi'', rfl, hg', rfl⟩
    intro p hp
    rcases List.mem_cons.mp hp with rfl | hp
    · exact Nat.ne_of_gt (l' _ (List.mem_append_right _ hoI))
    rcases List.mem_append.mp hp with hp | hp
    · exact Nat.ne_of_gt (l2 p hp _ (List.mem_append_right _ hoI))
    · exact hn p (.tail _ (List.mem_append_right _ hp))
  · rintro h' tk m' news' F' N' ⟨R', gs, jr', tn', gr', ro', mi', rfl, hg, rfl⟩
    exact hR h' tk R' gs jr' tn' gr' ro' mi' hg F' N'
end
end Mine

end
section
theorem Mine.resetR5 : True := by
  w_top off
  trivial
open PySem PySem.W PyProof.Rows PySem.Calls PyProof.Rows.LCg
set_option Elab.async false
set_option maxRecDepth 100000
set_option maxHeartbeats 2000000
set_option linter.unusedVariables false
namespace Mine
theorem fillR5 : (PySem.Challenge.rw_wf0014_01, hd.heap_39) = (PySem.Challenge.rw_wf0014_01, hd.heap_39) := by
  k_fill
  rfl
theorem rwM_0 {v : Value} : (fun y => if y = Str.ofString "rows" then some v else (none : Option Value)) = rwM (some v) none none none none := by
  funext y
  by_cases h : y = Str.ofString "rows"
  · subst h; rfl
  · simp only [rwM, if_neg h]
    (repeat' split) <;> rfl
section
variable {w : World} {mean : ExcName → Option Value} {mg mb : Str → Option Value} {A A₀ : Around} {env : Env} {outer : List Env} {base h₀ : Heap} {L : Nat} {m : Str → Option Value} {s : Shared} {Q E : Value → Shared → Prop}
  {news : List (Addr × Obj)} {hnd : Option Value} {dp un : Nat} {gd : Option (List Code)}
theorem rows_C (B : Below A₀ base outer h₀) (F : Fr h₀ L s.heap m) (X : (hd.heap_39 w.params).In h₀) (N : News h₀ L s.heap news)
    (T : Top TP TL mean mg mb h₀) (hf : env.frame = some L) (hke : env.scope.kind = .function) (hroom : dp + 8 < recursionLimit)
    (hret : ∀ h' tk' R es jr, RI es (growN 3) → Fr h₀ L h' m → News h₀ L h' ((R, listOf (refsE es).toArray jr) :: (RowsL es ++ news)) → Q (.ref R) { s with heap := h', toks := tk' }) :
    wpAny (model PR w) (AA none dp env outer gd un) (call (.ref 153) []) Q E s := by
  refine wpAny_call ?_
  k_dflt (refine' code_def ?k1 ?k2 ?k3 ?k4 ?k5 ?kA ?kF ?kK ?k6 ?k7 ?k8 ?k9 ?kB ?_ ?c2 ?c3 ?c4 ?c5; (case kA => exact rfl); (case kF => assumption); (case kK => assumption); (case k1 => k_asm); (case k2 => k_asm); (case k3 => k_asm); (case k4 => k_asm); (case k5 => k_asm); (case k6 => k_is); (case k7 => k_is); (case k8 => (dsimp only [AA]; omega)); (case k9 => exact BindsTo.of_eq rfl); (case c5 => decide); (case kB => exact locs rfl); (case c2 => exact rfl); (case c3 => exact rfl); (case c4 => exact rfl); k_whole; intro g' L' h' FG' F' N' B' X' T'; (try dsimp only); (try k_fold))
  have e0 : nth (fnB rwS) 0 = nth (fnB rwS) 0 := rfl
  conv at e0 => { rhs; whnf }
  have e2 : (fnB rwS).drop 2 = (fnB rwS).drop 2 := rfl
  conv at e2 => { rhs; whnf }
  have e1 : (fnB rwS).drop 1 = Stmt.For _ _ rwT [] _ :: (fnB rwS).drop 2 := rfl
  have eF : fnB rwS = nth (fnB rwS) 0 :: (fnB rwS).drop 1 := rfl
  show wpAny _ _ (execs (fnB rwS) _) _ _ _
  rw [eF, e0]
  generalize hT1 : (fnB rwS).drop 1 = tail1
  have F8 : Fr g' L' h' (fun _ => none) := F'
  clear F'
  k_steps
  rw [← hT1, e1]
  refine wpAny_execs_cons ?_
  refine wpAny_For ?_
  k_steps
  refine Stop.mk ?_
  (with_reducible rename IsRange _ _ _ _ _ _ _ _ => R9)
  (with_reducible rename News _ _ _ _ => N9)
  (with_reducible rename Fr _ _ _ _ => F9)
  obtain ⟨a, b, t, F5, N5⟩ : ∃ (a b : Nat) (t : Tok), Fr g' L' _ (fun y => if y = Str.ofString "rows" then some (Value.ref b) else none) ∧ News g' L' _ ((b, listOf #[.ref a] 0) :: (a, listOf #[.int 1 t] 0) :: news) := ⟨_, _, _, F9, N9⟩
  rw [rwM_0] at F5
  clear F9 N9
  refine io_range (n := 3) R9 rfl (by decide) (by decide) F5 N5 fun it s₂ H => ?_
  refine rt_loop (es := [(a, [.int 1 t], 0)]) (R := b) (rest := news) (rw_TB B' X' T' (by dsimp only; omega)) F5 N5 ⟨IntsAre.cons _ _ IntsAre.nil, trivial⟩ (H _ _) ?_
  intro h3 tk3 R3 gs jr3 tn3 gr3 ro3 mi3 hg3 F3 N3
  clear F5 N5 H
  dsimp only
  rw [e2]
  generalize hrt2 : RowsL gs ++ news = rest2 at N3
  k_steps
  (with_reducible rename News _ _ _ _ => N9)
  (with_reducible rename Fr _ _ _ _ => F9)
  subst hrt2
  exact hret _ _ R3 gs jr3 hg3 F9 N9
end
end Mine

end
section
theorem Mine.resetQ1 : True := by
  w_top off
  trivial
open PySem PySem.W PyProof.Rows PySem.Calls
set_option Elab.async false
set_option maxRecDepth 100000
set_option maxHeartbeats 4000000
set_option linter.unusedVariables false
namespace Mine
theorem fillQ1 : (PySem.Challenge.rw_wf0014_01, hd.heap_39) = (PySem.Challenge.rw_wf0014_01, hd.heap_39) := by
  k_fill
  rfl
noncomputable def lxS : Stmt := topS 15
noncomputable abbrev lxE (L : Addr) : Env := envOfC (Str.ofString "_law_lexer") (fnS lxS) L 133 (.ref 132)
section
variable {w : World} {mean : ExcName → Option Value} {mg mb : Str → Option Value} {A A₀ : Around} {env : Env} {outer : List Env} {base h₀ : Heap} {L : Nat} {m : Str → Option Value} {s : Shared} {Q E : Value → Shared → Prop}
  {rest : List (Addr × Obj)} {hnd : Option Value} {dp un : Nat} {gd : Option (List Code)}
local macro_rules | `(tactic| walk_at "execs cons") => `(tactic| (k_here; (with_reducible rename News _ _ _ (_ ++ _) => N9); dsimp only [List.cons_append, List.nil_append] at N9))
local macro_rules | `(tactic| k_ne) => `(tactic| ((with_reducible rename News _ _ _ _ => N9); refine' ne_of_objs ?na ?nb ?nc; (case na => refine' News.get N9 ?nd; (case nd => dsimp only; k_mem)); (case nb => refine' News.get N9 ?nd; (case nd => dsimp only; k_mem)); (case nc => intro e9; have e8 := congrArg Obj.cls e9; cases e8)))
local macro_rules | `(tactic| k_room) => `(tactic| ((try simp only [depth_under_make, depth_under_kw, depth_in1, depth_deeper, depth_caller]); (try dsimp only [AA]); omega))
theorem lexer_2 {text : Str} {tt : Tok} {oc : Obj} {sg : Nat} {xs : List (Str × Tok)} {Q : Flow → Shared → Prop} (B : Below A₀ base outer h₀) (X : (hd.heap_39 w.params).In h₀) (T : Top TP TL mean mg mb h₀) (hroom : dp + 8 < recursionLimit) (H : CodeHd base 132 128)
    (F : Fr h₀ L s.heap (fun y => if y = Str.ofString "text" then some (.str text tt) else none)) (N : News h₀ L s.heap ((sg, listOf (SV xs).toArray 0) :: (L + 1, oc) :: (128, tabObj #[]) :: rest)) (hoc : oc.data = .cell none)
    (hr : ∀ p ∈ rest, p.1 ≠ 128) (hr1 : ∀ p ∈ rest, p.1 ≠ L + 1) (lr : AllLt L rest) (l1 : 128 < L) (ls : L + 1 < sg) (lrs : AllLt sg rest) (h128 : 128 < sg) (e8 : 128 ≠ L + 1) (es : sg ≠ L + 1)
    (hret : ∀ (h' : Heap) (tk' pb line ld pc cc pb2 st sd : Nat) (t1 t2 t3 t4 u1 u2 e1 e2 e3 e4 e5 e6 e7 tq : Tok) (qual : Str) (doc ct : Value) (occ o' : Obj) (fvs : Array Value) (ps : Array Value) (m' : Str → Option Value), occ.data = .fields fvs → fvs[1]? = some (.str qual tq) → o'.data = .cell (some (.ref sg)) →
      (sg < sd ∧ sd < st ∧ st < pb2 ∧ pb2 < cc ∧ cc < pc ∧ pc < ld ∧ ld < line ∧ line < pb) → Fr h₀ L h' m' →
      News h₀ L h' ((pb, listOf #[] 0) :: (line, instObj 59 ld) :: (ld, dictOf (lineD w t1 t2 t3 t4 u1 u2 1 st pb) 4) :: (pc, pieceO qual (L + 1) doc ((mg (Str.ofString "__name__")).getD .none) cc ct) :: (cc, occ) :: (pb2, listOf #[] 0) :: (st, instObj 59 sd) :: (sd, dictOf (streamD w e1 e2 e3 e4 e5 e6 e7 pb2 pc) 5) :: (sg, listOf (SV xs).toArray 0) :: (L + 1, o') :: (128, tabObj ps) :: rest) →
      Q (.ret (.ref line)) { s with heap := h', toks := tk' }) :
    wpAny (model PR w) (AA none dp (lxE L) outer gd un) (storeName (lxE L) (Str.ofString "signs") (.ref sg)) (fun _ s' => wpAny (model PR w) (AA none dp (lxE L) outer gd un) (execs ((fnB lxS).drop 1) (lxE L)) Q E s') E s := by
  have eS : fnS lxS = fnS lxS := rfl
  conv at eS => { rhs; whnf }
  have eB : (fnB lxS).drop 1 = (fnB lxS).drop 1 := rfl
  conv at eB => { rhs; whnf }
  rw [eB]
  dsimp only [lxE]
  rw [eS]
  k_steps
  (with_reducible rename News _ _ _ _ => N9)
  (with_reducible rename Fr _ _ _ _ => F9)
  (with_reducible rename _ = Data.fields _ => D1)
  (with_reducible rename _ = some (Value.str _ _) => D2)
  (with_reducible rename _ = Data.cell (some _) => D3)
  refine hret _ _ _ _ _ _ _ _ _ _ _ _ _ _ _ _ _ _ _ _ _ _ _ _ _ _ _ _ _ _ _ _ D1 D2 D3 ?_ F9 N9
  · clear N9 F9
    refine ⟨?_, ?_, ?_, ?_, ?_, ?_, ?_, ?_⟩ <;> omega
end
end Mine

end
section
theorem Mine.resetQ2 : True := by
  w_top off
  trivial
open PySem PySem.W PyProof.Rows PySem.Calls
set_option Elab.async false
set_option maxRecDepth 100000
set_option maxHeartbeats 4000000
set_option linter.unusedVariables false
namespace Mine
theorem fillQ2 : (PySem.Challenge.rw_wf0014_01, hd.heap_39) = (PySem.Challenge.rw_wf0014_01, hd.heap_39) := by
  k_fill
  rfl
theorem carried_strs : ∀ {ys : List Value} {zs : List Str}, CarriedAll ys (zs.map PyData.str) → ∃ xs : List (Str × Tok), xs.map (·.1) = zs ∧ ys = xs.map fun p => Value.str p.1 p.2 := by
  intro ys zs h
  induction zs generalizing ys with
  | nil => cases h; exact ⟨[], rfl, rfl⟩
  | cons z zs ih =>
    cases h with
    | cons h1 h2 =>
      obtain ⟨xs, e1, e2⟩ := ih h2
      cases h1 with
      | str _ t => exact ⟨(z, t) :: xs, by rw [List.map_cons, e1], by rw [List.map_cons, e2]⟩
section
variable {w : World} {mean : ExcName → Option Value} {mg mb : Str → Option Value} {A A₀ : Around} {env : Env} {outer : List Env} {base h₀ : Heap} {L : Nat} {m : Str → Option Value} {s : Shared} {Q E : Value → Shared → Prop}
  {rest : List (Addr × Obj)} {hnd : Option Value} {dp un : Nat} {gd : Option (List Code)}
theorem lexer_C {text : Str} {tt : Tok} (B : Below A₀ base outer h₀) (F : Fr h₀ L s.heap m) (X : (hd.heap_39 w.params).In h₀) (T : Top TP TL mean mg mb h₀) (hf : env.frame = some L) (hke : env.scope.kind = .function) (hroom : dp + 32 < recursionLimit) (H : CodeHd base 132 128)
    (N : News h₀ L s.heap ((128, tabObj #[]) :: rest)) (hr : ∀ p ∈ rest, p.1 ≠ 128) (htx : text.length < 1000)
    (hret : ∀ (h' : Heap) (tk' pb line ld pc cc pb2 st sd sg cs : Nat) (t1 t2 t3 t4 u1 u2 e1 e2 e3 e4 e5 e6 e7 tq : Tok) (qual : Str) (doc ct : Value) (occ o' : Obj) (fvs : Array Value) (ps : Array Value) (xs : List (Str × Tok)), occ.data = .fields fvs → fvs[1]? = some (.str qual tq) → o'.data = .cell (some (.ref sg)) → xs.map (·.1) = signs text →
      ((128 < cs ∧ cs < sg) ∧ sg < sd ∧ sd < st ∧ st < pb2 ∧ pb2 < cc ∧ cc < pc ∧ pc < ld ∧ ld < line ∧ line < pb) → (∀ p ∈ rest, p.1 < cs) → Fr h₀ L h' m →
      News h₀ L h' ((pb, listOf #[] 0) :: (line, instObj 59 ld) :: (ld, dictOf (lineD w t1 t2 t3 t4 u1 u2 1 st pb) 4) :: (pc, pieceO qual cs doc ((mg (Str.ofString "__name__")).getD .none) cc ct) :: (cc, occ) :: (pb2, listOf #[] 0) :: (st, instObj 59 sd) :: (sd, dictOf (streamD w e1 e2 e3 e4 e5 e6 e7 pb2 pc) 5) :: (sg, listOf (SV xs).toArray 0) :: (cs, o') :: (128, tabObj ps) :: rest) →
      Q (.ref line) { s with heap := h', toks := tk' }) :
    wpAny (model PR w) (AA none dp env outer gd un) (call (.ref 133) [.str text tt]) Q E s := by
  refine wpAny_call ?_
  k_dflt (refine' code_defC ?k1 ?k2 ?k3 ?k4 ?k5 ?kA ?kF ?kK ?k6 ?k7 ?k8 ?k9 ?kB ?kD ?_ ?c2 ?c3 ?c4; (case kA => exact rfl); (case kF => assumption); (case kK => assumption); (case k1 => k_asm); (case k2 => k_asm); (case k3 => k_asm); (case k4 => k_asm); (case k5 => k_asm); (case k6 => k_is); (case k7 => k_is); (case k8 => (dsimp only [AA]; omega)); (case k9 => exact BindsTo.of_eq rfl); (case kB => exact rfl); (case kD => decide +kernel); (case c2 => exact rfl); (case c3 => exact rfl); (case c4 => exact rfl); k_whole; intro g' L' h' tk' cells' FG' F' N' Y' B' X' T' l1; (try k_lt l1); k_cells Y'; (try simp only [List.cons_append, List.nil_append] at N'); (try dsimp only); (try k_lift B'); (try k_fold))
  rename_i oc' d1
  have hoc' : oc'.data = .cell none := d1.trans rfl
  clear d1
  have F8 : Fr g' L' h' (fun y => if y = Str.ofString "text" then some (.str text tt) else none) := F'
  clear F'
  have lr : ∀ p ∈ rest, p.1 < L' := AllLt.mem l1.2
  have hr1 : ∀ p ∈ rest, p.1 ≠ L' + 1 := fun p hp => Nat.ne_of_lt (Nat.lt_succ_of_lt (lr p hp))
  k_steps
  (with_reducible rename News _ _ _ _ => N9)
  (with_reducible rename Fr _ _ _ _ => F9)
  (rename CarriedAll _ _ => C9)
  obtain ⟨xs, hxs, rfl⟩ := carried_strs C9
  rw [krv_pick] at N9
  dsimp only at N9 F9 ⊢
  (with_reducible rename News _ _ _ ((_, oc') :: _) => NA)
  have lz := Heap.lt_size (NA.get (.head _))
  have lz2 := Nat.lt_succ_of_lt lz
  refine lexer_2 (xs := xs) (rest := rest) (tt := tt) B' X' T' (by dsimp only; omega) H F9 (show News g' L' _ ((_, listOf (SV xs).toArray 0) :: (L' + 1, oc') :: (128, tabObj #[]) :: rest) from N9) hoc' hr hr1 l1.2 l1.1 lz2 (allLt_of fun p hp => Nat.lt_trans (lr p hp) (Nat.lt_trans (Nat.lt_succ_self _) lz2)) (Nat.lt_trans l1.1 (Nat.lt_trans (Nat.lt_succ_self _) lz2)) (Nat.ne_of_lt (Nat.lt_succ_of_lt l1.1)) (Nat.ne_of_gt lz2) ?_
  intro h3 tk3 pb line ld pc cc pb2 st sd t1 t2 t3 t4 u1 u2 e1 e2 e3 e4 e5 e6 e7 tq qual doc ct occ o3 fvs ps m3 D1 D2 D3 lts F3 N3
  refine leaveK_ F3 N3 fun F₅ N₅ => ?_
  exact hret h3 tk3 pb line ld pc cc pb2 st sd _ (L' + 1) t1 t2 t3 t4 u1 u2 e1 e2 e3 e4 e5 e6 e7 tq qual doc ct occ o3 fvs ps xs D1 D2 D3 hxs ⟨⟨Nat.lt_succ_of_lt l1.1, lz2⟩, lts⟩ (fun p hp => Nat.lt_succ_of_lt (lr p hp)) F₅ N₅
end
end Mine

end
section
theorem Mine.resetV0 : True := by
  w_top off
  trivial
open PySem PySem.W PyProof.Rows PySem.Calls
namespace Mine
theorem cps_app (a b : Str) : (a ++ b).cps.toList = a.cps.toList ++ b.cps.toList := by
  show (a.cps ++ b.cps).toList = _
  rw [Array.toList_append]
theorem cps_join : ∀ ys : List Str, (PySem.Txt.join (Str.ofString "") ys).cps.toList = ys.flatMap fun y => y.cps.toList := by
  intro ys
  show (Builtin.Str.glued (Str.ofString "") ys).cps.toList = _
  rw [StrLaws.glued_eq_join]
  induction ys with
  | nil => rfl
  | cons x r ih =>
    cases r with
    | nil => simp [Str.join]
    | cons y r =>
      rw [join_cons_cons, cps_app, cps_app, ih, show (Str.ofString "").cps.toList = [] from by decide, List.append_nil, List.flatMap_cons (xs := y :: r)]
theorem str_ext {a b : Str} (h : a.cps.toList = b.cps.toList) : a = b := by
  cases a with
  | mk a =>
    cases b with
    | mk b => exact congrArg Str.mk (Array.toList_inj.mp h)
theorem len_cps (a : Str) : a.length = a.cps.toList.length := by
  show a.cps.size = _
  rw [Array.length_toList]
noncomputable def joined (x : Str) : Str := PySem.Txt.join (Str.ofString "") ((signs x).map fun z => Str.ofString "\\" ++ z)
noncomputable def piece (x : Str) (k : Int) : Str := if k.fmod 3 = 0 then x ++ Str.ofString " " else if k.fmod 3 = 1 then Str.ofString "\"" ++ x ++ Str.ofString "\"" else joined x ++ Str.ofString "\n"
theorem cps_joined (x : Str) : (joined x).cps.toList = x.cps.toList.flatMap fun c => [92, c] := by
  unfold joined
  rw [cps_join]
  show ((x.cps.toList.map fun n => (⟨#[n]⟩ : Str)).map fun z => Str.ofString "\\" ++ z).flatMap _ = _
  rw [List.map_map, List.flatMap_map]
  congr 1
theorem joined_len (x : Str) : (joined x).length = 2 * x.length := by
  rw [len_cps, cps_joined, len_cps]
  generalize x.cps.toList = l
  induction l with
  | nil => rfl
  | cons c l ih => rw [List.flatMap_cons, List.length_append, ih]; simp; omega
theorem piece_len (x : Str) (k : Int) : (piece x k).length ≤ 2 * x.length + 2 := by
  unfold piece
  split
  · rw [len_cps, cps_app, List.length_append, ← len_cps, show (Str.ofString " ").cps.toList = [32] from by decide]; simp; omega
  split
  · rw [len_cps, cps_app, cps_app, List.length_append, List.length_append, ← len_cps x, show (Str.ofString "\"").cps.toList = [34] from by decide]; simp; omega
  · rw [len_cps, cps_app, List.length_append, ← len_cps, joined_len, show (Str.ofString "\n").cps.toList = [10] from by decide]; simp
theorem signs_at {x : Str} {i c : Nat} (h : x.cps[i]? = some c) : (signs x)[i]? = some ⟨#[c]⟩ := by
  show (x.cps.toList.map fun n => (⟨#[n]⟩ : Str))[i]? = _
  rw [List.getElem?_map, Array.getElem?_toList, h]; rfl
theorem strs_snoc {vs : List Value} {ys : List Str} {z : Str} {t : Tok} (h : StrsAre vs ys) : StrsAre (vs ++ [.str z t]) (ys ++ [z]) := by
  induction h with
  | nil => exact .cons _ _ .nil
  | cons y u _ ih => exact .cons y u ih
theorem strs_len {vs : List Value} {ys : List Str} (h : StrsAre vs ys) : vs.length = ys.length := by
  induction h with
  | nil => rfl
  | cons y u _ ih => rw [List.length_cons, List.length_cons, ih]
theorem strs_at {vs : List Value} {ys : List Str} (h : StrsAre vs ys) {i : Nat} {v : Value} (e : vs[i]? = some v) : ∃ z t, ys[i]? = some z ∧ v = .str z t := by
  induction h generalizing i with
  | nil => simp at e
  | cons y u h ih =>
    cases i with
    | zero => exact ⟨y, u, rfl, (Option.some.inj e).symm⟩
    | succ i => exact ih (by simpa using e)
theorem signs_len2 (x : Str) : (((signs x).map fun z => Str.ofString "\\" ++ z).map (·.length)).sum = 2 * x.length := by
  rw [len_cps, signs_def]
  generalize x.cps.toList = l
  induction l with
  | nil => rfl
  | cons c l ih =>
    rw [List.map_cons, List.map_cons, List.map_cons, List.sum_cons, ih, len_cps, cps_app, List.length_append, show (Str.ofString "\\").cps.toList = [92] from by decide, List.length_cons]
    show 2 + _ = 2 * (l.length + 1)
    omega
theorem signs_length' (x : Str) : (signs x).length = x.length := by
  rw [signs_def, List.length_map, len_cps]
/-- the whole text -/
noncomputable def wtext : List (Str × Int) → Str
  | [] => Str.ofString ""
  | p :: r => piece p.1 p.2 ++ wtext r
end Mine

end
section
theorem Mine.resetV1 : True := by
  w_top off
  trivial
open PySem PySem.W PyProof.Rows PySem.Calls PyProof.Rows.LCg
set_option Elab.async false
set_option maxRecDepth 100000
set_option maxHeartbeats 2000000
set_option linter.unusedVariables false
namespace Mine
theorem fillV1 : (PySem.Challenge.rw_wf0014_01, hd.heap_39) = (PySem.Challenge.rw_wf0014_01, hd.heap_39) := by
  k_fill
  rfl
noncomputable def wrS : Stmt := topS 16
noncomputable abbrev wrE (L : Addr) : Env := envOf (Str.ofString "_law_written") (fnS wrS) L 138 (.ref 137)
noncomputable abbrev wrM (ws ms tx wd mn : Option Value) : Str → Option Value := fun y => if y = Str.ofString "manner" then mn else if y = Str.ofString "word" then wd else if y = Str.ofString "text" then tx else if y = Str.ofString "manners" then ms else if y = Str.ofString "words" then ws else none
noncomputable def wrB : List Stmt := fnB (nth (fnB wrS) 1)
theorem wrM_tx {ws ms tx wd mn : Option Value} {v : Value} : (fun y => if y = Str.ofString "text" then some v else wrM ws ms tx wd mn y) = wrM ws ms (some v) wd mn := by
  funext y
  by_cases h : y = Str.ofString "text"
  · subst h; rfl
  · simp only [wrM, if_neg h]
theorem wrM_2 {ws ms tx wd mn : Option Value} {v v' : Value} : up1 (Str.ofString "manner") v' (up1 (Str.ofString "word") v (wrM ws ms tx wd mn)) = wrM ws ms tx (some v) (some v') := by
  funext y
  by_cases h : y = Str.ofString "manner"
  · subst h; rfl
  · by_cases h2 : y = Str.ofString "word"
    · subst h2; rfl
    · simp only [up1, wrM, if_neg h, if_neg h2]
section
variable {w : World} {mean : ExcName → Option Value} {mg mb : Str → Option Value} {A A₀ : Around} {env : Env} {outer : List Env} {base h₀ : Heap} {L : Nat} {m : Str → Option Value} {s : Shared} {Q : Flow → Shared → Prop} {E : Value → Shared → Prop}
  {rest : List (Addr × Obj)} {hnd : Option Value} {dp un : Nat} {gd : Option (List Code)}
  {ws ms tx wd mn : Option Value}
local macro_rules | `(tactic| walk_at "call builtin:str.join") => `(tactic| refine Stop.go ?_)
theorem wr_B {x tx : Str} {k : Int} {t1 t2 t3 : Tok} (B : Below A₀ base outer h₀) (X : (hd.heap_39 w.params).In h₀) (T : Top TP TL mean mg mb h₀) (hroom : dp < recursionLimit)
    (F : Fr h₀ L s.heap (wrM ws ms (some (.str tx t1)) (some (.str x t2)) (some (.int k t3))))
    (N : News h₀ L s.heap rest) (hx : x.length < 100) (htx : tx.length < 1000)
    (hret : ∀ h' tk' t', Fr h₀ L h' (wrM ws ms (some (.str (tx ++ piece x k) t')) (some (.str x t2)) (some (.int k t3))) → News h₀ L h' rest → Q .next { s with heap := h', toks := tk' }) :
    wpAny (model PR w) (AA none dp (wrE L) outer gd un) (execs wrB (wrE L)) Q E s := by
  have eS : fnS wrS = fnS wrS := rfl
  conv at eS => { rhs; whnf }
  have eB : wrB = wrB := rfl
  conv at eB => { rhs; whnf }
  rw [eB]
  dsimp only [wrE]
  rw [eS]
  k_steps
  all_goals (with_reducible rename Fr _ _ _ _ => F9)
  all_goals (with_reducible rename News _ _ _ _ => N9)
  · rename_i hk _ _ _ _
    rw [wrM_tx] at F9
    have e : piece x k = x ++ Str.ofString " " := by rw [piece, if_pos (by assumption)]
    rw [← e] at F9
    exact hret _ _ _ F9 N9
  · rw [wrM_tx] at F9
    have e : piece x k = Str.ofString "\"" ++ x ++ Str.ofString "\"" := by rw [piece, if_neg (by assumption), if_pos (by assumption)]
    rw [← e] at F9
    exact hret _ _ _ F9 N9
  · have e : piece x k = joined x ++ Str.ofString "\n" := by rw [piece, if_neg (by assumption), if_neg (by assumption)]
    refine Stop.mk ?_
    refine ListComp_F (L := L) (m := wrM ws ms (some (.str tx t1)) (some (.str x t2)) (some (.int k t3))) (h₀ := h₀) rfl (by decide) rfl (by decide) ?_
    k_steps
    unfold SrcF
    (with_reducible rename Fr _ _ _ _ => F9)
    (with_reducible rename News _ _ _ _ => N9)
    refine it_str rfl F9 N9 fun it s₂ H => ?_
    have hsz : x.cps.size < 100 := hx
    refine src_It F9 N9 (H _ _) (fun C => ⟨rfl, rfl⟩) (by simp) (by rw [sizeLine_eq]; omega)
      (fun i ys news => ys.length = i ∧ StrsAre ys (((signs x).take i).map fun z => Str.ofString "\\" ++ z) ∧ news = rest) ?_ ?_ ?_ ?_ ?_ ?_
    · rintro i ys news ⟨_, _, rfl⟩; rfl
    · rintro i ys news ⟨e, _⟩; exact e
    · exact ⟨rfl, StrsAre.nil, rfl⟩
    · rintro i C oC D m₁ m₂ ys news₁ own h tk E' hi ⟨v, ⟨c, u, hc, rfl⟩, rfl⟩ hoC ⟨hl₁, hy₁, rfl⟩ ho hnl hol F₁ N₁
      clear F9 N9 H hret
      have hm2 : up1 (Str.ofString "sign") (Value.str ⟨#[c]⟩ u) m₁ (Str.ofString "sign") = some (Value.str ⟨#[c]⟩ u) := rfl
      have hcl : (⟨#[c]⟩ : Str).length < 100 := by show 1 < 100; decide
      k_steps
      refine EltPost.mk news₁ (by assumption) (by assumption) ⟨?_, ?_, rfl⟩
      · rw [List.length_append, List.length_singleton, hl₁]
      · rw [List.take_add_one, signs_at hc, Option.toList_some, List.map_append]
        exact strs_snoc hy₁
    · rintro D h₂ tk₂ ys news ⟨hl₂, hy₂, rfl⟩ F₂ N₂ hD
      have hsl : (signs x).length = x.cps.size := signs_length' x
      rw [← hsl, List.take_length] at hy₂
      clear F9 N9 H
      have hl9 : Heap.IsList h₂ D ys.toArray := ⟨_, N₂.get (.head _), rfl, _, rfl⟩
      k_steps
      refine Stop.mk ?_
      refine join_listC hl9 (by simpa using hy₂) (by decide) (by rw [signs_len2, List.length_map, hsl]; have : x.length = x.cps.size := rfl; omega) ?_
      intro tj kj
      dsimp only
      rw [show PySem.Txt.join (Str.ofString "") ((signs x).map fun z => Str.ofString "\\" ++ z) = joined x from rfl]
      have hj : (joined x).length < 300 := by rw [joined_len]; omega
      generalize joined x = jx at *
      k_steps
      (with_reducible rename Fr _ _ _ _ => F8)
      (with_reducible rename News _ _ _ _ => N8)
      rw [wrM_tx, ← e] at F8
      exact hret _ _ _ F8 (fun p hp => N8 p (.tail _ hp))
    · exact fun hp tk h => h
end
end Mine

end
section
theorem Mine.resetV2 : True := by
  w_top off
  trivial
local macro_rules | `(tactic| walk_at "none") => `(tactic| skip)
open PySem PySem.W PyProof.Rows PySem.Calls PyProof.Rows.LCg
set_option Elab.async false
set_option maxRecDepth 100000
set_option maxHeartbeats 2000000
set_option linter.unusedVariables false
namespace Mine
theorem fillV2 : (PySem.Challenge.rw_wf0014_01, hd.heap_39) = (PySem.Challenge.rw_wf0014_01, hd.heap_39) := by
  k_fill
  rfl
noncomputable def wcps (ps : List (Str × Int)) : List Nat := ps.flatMap fun p => (piece p.1 p.2).cps.toList
theorem wcps_len : ∀ {ps : List (Str × Int)}, (∀ p ∈ ps, p.1.length < 10) → (wcps ps).length ≤ 20 * ps.length := by
  intro ps h
  induction ps with
  | nil => exact Nat.le_refl _
  | cons p r ih =>
    unfold wcps at ih ⊢
    rw [List.flatMap_cons, List.length_append, ← len_cps, List.length_cons]
    have h1 := ih fun p hp => h p (.tail _ hp)
    have h2 := piece_len p.1 p.2
    have h3 := h p (.head _)
    omega
theorem wrM_0 {a b : Value} : (fun y => List.lookup y ([(Str.ofString "words", a), (Str.ofString "manners", b)] : List (Str × Value)).reverse) = wrM (some a) (some b) none none none := by
  funext y
  simp only [List.reverse_cons, List.reverse_nil, List.nil_append, List.cons_append, List.lookup_cons, List.lookup_nil]
  by_cases h1 : y = Str.ofString "manners"
  · subst h1; rfl
  · by_cases h2 : y = Str.ofString "words"
    · subst h2; rfl
    · rw [beq_false_of_ne h1, beq_false_of_ne h2]
      simp only [wrM, if_neg h1, if_neg h2]
      (repeat' split) <;> rfl
section
variable {w : World} {mean : ExcName → Option Value} {mg mb : Str → Option Value} {A A₀ : Around} {env : Env} {outer : List Env} {base h₀ : Heap} {L : Nat} {m : Str → Option Value} {s : Shared}
  {news : List (Addr × Obj)} {hnd : Option Value} {dp un : Nat} {gd : Option (List Code)} {wl ml jw jm : Nat} {wvs mvs : List Value} {xs : List Str} {ks : List Int}
  {ws ms tx wd mn : Option Value}
theorem wr_loop {Rz : Result → Shared → Prop} {pa pb tp : Pos} {kk : Nat} {it : Value} {s₂ : Shared} {t1 : Tok} (B : Below A₀ base outer h₀) (X : (hd.heap_39 w.params).In h₀) (T : Top TP TL mean mg mb h₀) (hroom : dp < recursionLimit)
    (F : Fr h₀ L s.heap (wrM ws ms (some (.str (Str.ofString "") t1)) wd mn)) (N : News h₀ L s.heap news) (hw : StrsAre wvs xs) (hm : IntsAre mvs ks) (hlen : xs.length = ks.length) (hl8 : xs.length < 20) (hx : ∀ x ∈ xs, x.length < 10) (hLw : L ≠ wl) (hLm : L ≠ ml)
    (H : IterF PR w (AA none dp (wrE L) outer gd un) h₀ L (wrM ws ms (some (.str (Str.ofString "") t1)) wd mn) news s [wl, ml] (min wvs.toArray.size mvs.toArray.size) (.Tuple [.Name (Str.ofString "word") pa, .Name (Str.ofString "manner") pb] kk tp) (Ok2 (Str.ofString "word") (Str.ofString "manner")) (Bd2 (Str.ofString "word") (Str.ofString "manner") fun i x y => wvs.toArray[i]? = some x ∧ mvs.toArray[i]? = some y) it s₂)
    (hR : ∀ h' tk tx' t' wd' mn', tx'.cps.toList = wcps (xs.zip ks) → Fr h₀ L h' (wrM ws ms (some (.str tx' t')) wd' mn') → News h₀ L h' news → Rz (.ok .next) { s with heap := h', toks := tk }) :
    codeAny (model PR w) (AA none dp (wrE L) outer gd un) (.forLoop (.Tuple [.Name (Str.ofString "word") pa, .Name (Str.ofString "manner") pb] kk tp) it wrB [] (wrE L)) Rz s₂ := by
  have hn : min wvs.toArray.size mvs.toArray.size = (xs.zip ks).length := by
    rw [List.size_toArray, List.size_toArray, strs_len hw, hm.length, List.length_zip]
  rw [hn] at H
  have hzl : (xs.zip ks).length < 20 := by rw [List.length_zip]; omega
  refine for_It (env := wrE L) F N H ⟨rfl, rfl, rfl⟩ (fun e => by rcases List.mem_cons.mp e with h | h; exact hLw h; exact hLm (List.mem_singleton.mp h))
    (fun i m news' => ∃ tx' t' wd' mn', m = wrM ws ms (some (.str tx' t')) wd' mn' ∧ tx'.cps.toList = wcps ((xs.zip ks).take i) ∧ news' = news) ?_ ?_ ?_ ?_
  · rintro i m news' ⟨_, _, _, _, _, _, rfl⟩; rfl
  · exact ⟨_, t1, wd, mn, rfl, (show (Str.ofString "").cps.toList = [] by decide), rfl⟩
  · rintro i m₁ mm news₁ own h tk E' hi ⟨v, v', ⟨hv, hv'⟩, rfl⟩ ⟨tx', t', wd', mn', rfl, hc, rfl⟩ ho F₁ N₁
    rw [List.getElem?_toArray] at hv hv'
    obtain ⟨x, tx2, hx1, rfl⟩ := strs_at hw hv
    obtain ⟨k, tk2, hk1, rfl⟩ := ints_at hm hv'
    rw [wrM_2] at F₁
    have hlt : tx'.length < 1000 := by
      rw [len_cps, hc]
      have h1 := wcps_len (ps := (xs.zip ks).take i) (fun p hp => hx _ (List.of_mem_zip (List.mem_of_mem_take hp)).1)
      rw [List.length_take] at h1
      omega
    have hx10 := hx x (List.mem_of_getElem? hx1)
    refine wr_B (rest := news₁ ++ own) B X T hroom F₁ N₁ (by omega) hlt ?_
    intro h' tk' t'' F' N'
    refine ⟨rfl, h', tk', _, news₁, rfl, F', N', _, t'', _, _, rfl, ?_, rfl⟩
    have hz : (xs.zip ks)[i]? = some (x, k) := by
      rw [List.getElem?_zip_eq_some]; exact ⟨hx1, hk1⟩
    rw [cps_app, hc, List.take_add_one, hz]
    unfold wcps
    rw [List.flatMap_append]
    simp
  · rintro h' tk m' news' F' N' ⟨tx', t', wd', mn', rfl, hc, rfl⟩
    rw [List.take_length] at hc
    exact hR h' tk tx' t' wd' mn' hc F' N'
end
section
variable {w : World} {mean : ExcName → Option Value} {mg mb : Str → Option Value} {A A₀ : Around} {env : Env} {outer : List Env} {base h₀ : Heap} {L : Nat} {m : Str → Option Value} {s : Shared} {Q E : Value → Shared → Prop}
  {news : List (Addr × Obj)} {hnd : Option Value} {dp un : Nat} {gd : Option (List Code)} {wl ml jw jm : Nat} {wvs mvs : List Value} {xs : List Str} {ks : List Int}
local macro_rules | `(tactic| walk_at "call type:zip") => `(tactic| refine Stop.go ?_)
theorem written_C (B : Below A₀ base outer h₀) (F : Fr h₀ L s.heap m) (X : (hd.heap_39 w.params).In h₀) (N : News h₀ L s.heap news)
    (T : Top TP TL mean mg mb h₀) (hf : env.frame = some L) (hke : env.scope.kind = .function) (hroom : dp + 8 < recursionLimit)
    (m1 : (wl, listOf wvs.toArray jw) ∈ news) (m2 : (ml, listOf mvs.toArray jm) ∈ news) (hw : StrsAre wvs xs) (hm : IntsAre mvs ks) (hlen : xs.length = ks.length) (hl8 : xs.length < 20) (hx : ∀ x ∈ xs, x.length < 10)
    (hret : ∀ h' tk' tx t', tx.cps.toList = wcps (xs.zip ks) → Fr h₀ L h' m → News h₀ L h' news → Q (.str tx t') { s with heap := h', toks := tk' }) :
    wpAny (model PR w) (AA none dp env outer gd un) (call (.ref 138) [.ref wl, .ref ml]) Q E s := by
  refine wpAny_call ?_
  k_dflt (refine' code_def ?k1 ?k2 ?k3 ?k4 ?k5 ?kA ?kF ?kK ?k6 ?k7 ?k8 ?k9 ?kB ?_ ?c2 ?c3 ?c4 ?c5; (case kA => exact rfl); (case kF => assumption); (case kK => assumption); (case k1 => k_asm); (case k2 => k_asm); (case k3 => k_asm); (case k4 => k_asm); (case k5 => k_asm); (case k6 => k_is); (case k7 => k_is); (case k8 => (dsimp only [AA]; omega)); (case k9 => exact BindsTo.of_eq rfl); (case c5 => decide); (case kB => exact locs rfl); (case c2 => exact rfl); (case c3 => exact rfl); (case c4 => exact rfl); k_whole; intro g' L' h' FG' F' N' B' X' T'; (try dsimp only); (try k_fold))
  have e0 : nth (fnB wrS) 0 = nth (fnB wrS) 0 := rfl
  conv at e0 => { rhs; whnf }
  have e2 : (fnB wrS).drop 2 = (fnB wrS).drop 2 := rfl
  conv at e2 => { rhs; whnf }
  have e1 : (fnB wrS).drop 1 = Stmt.For _ _ wrB [] _ :: (fnB wrS).drop 2 := rfl
  have eF : fnB wrS = nth (fnB wrS) 0 :: (fnB wrS).drop 1 := rfl
  show wpAny _ _ (execs (fnB wrS) _) _ _ _
  rw [eF, e0]
  generalize hT1 : (fnB wrS).drop 1 = tail1
  have F8 : Fr g' L' h' (wrM (some (.ref wl)) (some (.ref ml)) none none none) := by
    rw [← wrM_0]; exact F'
  clear F'
  k_steps
  (with_reducible rename Fr _ _ _ _ => F9)
  rw [wrM_tx] at F9
  rw [← hT1, e1]
  refine wpAny_execs_cons ?_
  refine wpAny_For ?_
  k_steps
  refine Stop.mk ?_
  (with_reducible rename Fr _ _ _ _ => F9)
  (with_reducible rename News _ _ _ _ => N9)
  refine it_zip rfl (N9.isList m1) (N9.isList m2) F9 N9 fun it s₂ H => ?_
  refine wr_loop (wl := wl) (ml := ml) (xs := xs) (ks := ks) B' X' T' (by dsimp only; omega) F9 N9 hw hm hlen hl8 hx (fun e => (N9 _ m1).2.1 e.symm) (fun e => (N9 _ m2).2.1 e.symm) (H _ _ _ _ _ _) ?_
  intro h3 tk3 tx3 t3 wd3 mn3 hc3 F3 N3
  clear F9 N9 H
  dsimp only
  rw [e2]
  k_steps
  exact hret _ _ _ _ hc3 (by assumption) (by assumption)
end
end Mine

end
section
theorem Mine.resetV3 : True := by
  w_top off
  trivial
open PySem PySem.W PyProof.Rows PySem.Calls
set_option maxRecDepth 100000
set_option linter.unusedVariables false
namespace Mine
noncomputable abbrev sgn (c : Nat) : Str := ⟨#[c]⟩
noncomputable def Dig (x : Str) : Prop := x.cps.toList ≠ [] ∧ ∀ c ∈ x.cps.toList, 48 ≤ c ∧ c ≤ 57
theorem dig_in {c : Nat} (h : 48 ≤ c ∧ c ≤ 57) : c ∈ [48, 49, 50, 51, 52, 53, 54, 55, 56, 57] := by
  simp only [List.mem_cons, List.not_mem_nil, or_false]
  omega
theorem dig_all : ∀ c ∈ [48, 49, 50, 51, 52, 53, 54, 55, 56, 57], (inWs (sgn c) = true ∧ (sgn c == Str.ofString "\\") = false ∧ sgn c ≠ Str.ofString "\n" ∧ sgn c ≠ Str.ofString "") ∧ (sgn c == Str.ofString "\"") = false := by decide +kernel
theorem dig_PD {c : Nat} (h : 48 ≤ c ∧ c ≤ 57) : PD (sgn c) := (dig_all c (dig_in h)).1
theorem dig_QD {c : Nat} (h : 48 ≤ c ∧ c ≤ 57) : QD (sgn c) := by
  obtain ⟨⟨_, a, b, d⟩, e⟩ := dig_all c (dig_in h)
  exact ⟨e, a, b, d⟩
theorem cps_cat : ∀ {ds : List (Str × Tok)} {l : List Nat}, ds.map (·.1) = l.map sgn → (cat ds).cps.toList = l
  | [], [], _ => rfl
  | p :: ds, c :: l, h => by
    simp only [List.map_cons, List.cons.injEq] at h
    show (p.1 ++ cat ds).cps.toList = _
    rw [cps_app, cps_cat h.2, h.1]
    rfl
  | [], _ :: _, h => by cases h
  | _ :: _, [], h => by cases h
theorem cps_cat2 : ∀ {ds : List ((Str × Tok) × (Str × Tok))} {l : List Nat}, ds.map (·.2.1) = l.map sgn → (cat2 ds).cps.toList = l
  | [], [], _ => rfl
  | p :: ds, c :: l, h => by
    simp only [List.map_cons, List.cons.injEq] at h
    show (p.2.1 ++ cat2 ds).cps.toList = _
    rw [cps_app, cps_cat2 h.2, h.1]
    rfl
  | [], _ :: _, h => by cases h
  | _ :: _, [], h => by cases h
theorem cps_empty : (Str.ofString "").cps.toList = [] := by decide
theorem all_of {P : Str → Prop} {l : List Nat} (hP : ∀ c ∈ l, P (sgn c)) {ds : List (Str × Tok)} (h : ds.map (·.1) = l.map sgn) : ∀ p ∈ ds, P p.1 := by
  intro p hp
  have : p.1 ∈ l.map sgn := h ▸ List.mem_map_of_mem hp
  obtain ⟨c, hc, e⟩ := List.mem_map.mp this
  exact e ▸ hP c hc
theorem lex_p {x : Str} (hx : Dig x) {xs : List (Str × Tok)} {more : List Str} (h : xs.map (·.1) = x.cps.toList.map sgn ++ sgn 32 :: more) :
    ∃ d0 ds qp xs', xs = d0 :: ds ++ qp :: xs' ∧ PD d0.1 ∧ (d0.1 == Str.ofString "\"") = false ∧ inWs qp.1 = false ∧ qp.1 ≠ Str.ofString "\n" ∧ qp.1 ≠ Str.ofString "" ∧ (∀ p ∈ ds, PD p.1) ∧ (Str.ofString "" ++ d0.1) ++ cat ds = x ∧ xs'.map (·.1) = more := by
  obtain ⟨u, v, rfl, hu, hv⟩ := List.map_eq_append_iff.mp h
  obtain ⟨qp, xs', rfl, hq, hm⟩ := List.map_eq_cons_iff.mp hv
  obtain ⟨hne, hd⟩ := hx
  generalize hl : x.cps.toList = l at *
  cases l with
  | nil => exact absurd rfl hne
  | cons c l =>
    obtain ⟨d0, ds, rfl, h0, hds⟩ := List.map_eq_cons_iff.mp hu
    refine ⟨d0, ds, qp, xs', rfl, h0 ▸ dig_PD (hd c (.head _)), h0 ▸ (dig_all c (dig_in (hd c (.head _)))).2, hq ▸ (by decide +kernel), hq ▸ (by decide +kernel), hq ▸ (by decide +kernel), all_of (P := PD) (fun c hc => dig_PD (hd c (.tail _ hc))) hds, ?_, hm⟩
    refine str_ext ?_
    rw [cps_app, cps_app, cps_cat hds, cps_empty, hl, h0]
    rfl
theorem lex_q {x : Str} (hx : Dig x) {xs : List (Str × Tok)} {more : List Str} (h : xs.map (·.1) = sgn 34 :: (x.cps.toList.map sgn ++ sgn 34 :: more)) :
    ∃ q0 ds qp xs', xs = q0 :: ds ++ qp :: xs' ∧ q0.1 = Str.ofString "\"" ∧ qp.1 = Str.ofString "\"" ∧ (∀ p ∈ ds, QD p.1) ∧ Str.ofString "" ++ cat ds = x ∧ xs'.map (·.1) = more := by
  obtain ⟨q0, r, rfl, h0, hr⟩ := List.map_eq_cons_iff.mp h
  obtain ⟨u, v, rfl, hu, hv⟩ := List.map_eq_append_iff.mp hr
  obtain ⟨qp, xs', rfl, hq, hm⟩ := List.map_eq_cons_iff.mp hv
  refine ⟨q0, u, qp, xs', rfl, h0.trans (by decide +kernel), hq.trans (by decide +kernel), all_of (P := QD) (fun c hc => dig_QD (hx.2 c hc)) hu, ?_, hm⟩
  refine str_ext ?_
  rw [cps_app, cps_cat hu, cps_empty]
  rfl
theorem pairs_of : ∀ {l : List Nat} {xs : List (Str × Tok)}, xs.map (·.1) = (l.flatMap fun c => [92, c]).map sgn → ∃ ps : List ((Str × Tok) × (Str × Tok)), xs = fl ps ∧ (∀ p ∈ ps, p.1.1 = sgn 92) ∧ ps.map (·.2.1) = l.map sgn
  | [], [], _ => ⟨[], rfl, (fun _ h => nomatch h), rfl⟩
  | c :: l, xs, h => by
    rw [List.flatMap_cons] at h
    simp only [List.cons_append, List.nil_append, List.map_cons] at h
    obtain ⟨a, r, rfl, ha, hr⟩ := List.map_eq_cons_iff.mp h
    obtain ⟨b, r', rfl, hb, hr'⟩ := List.map_eq_cons_iff.mp hr
    obtain ⟨ps, rfl, h1, h2⟩ := pairs_of hr'
    refine ⟨(a, b) :: ps, rfl, ?_, ?_⟩
    · intro p hp
      rcases List.mem_cons.mp hp with rfl | hp
      · exact ha
      · exact h1 p hp
    · rw [List.map_cons, List.map_cons, h2]
      exact congrArg (· :: _) hb
  | [], _ :: _, h => by cases h
theorem back_SD {p : (Str × Tok) × (Str × Tok)} {c : Nat} (h1 : p.1.1 = sgn 92) (h2 : p.2.1 = sgn c) (hc : 48 ≤ c ∧ c ≤ 57) : SD p := by
  refine ⟨?_, ?_, ?_, ?_, ?_⟩
  · rw [h1]; decide +kernel
  · rw [h1]; decide +kernel
  · rw [h1]; decide +kernel
  · rw [h1]; decide +kernel
  · rw [h2]; exact (dig_PD hc).2.2.1
theorem lex_b {x : Str} (hx : Dig x) {xs : List (Str × Tok)} {more : List Str} (h : xs.map (·.1) = (x.cps.toList.flatMap fun c => [92, c]).map sgn ++ sgn 10 :: more) :
    ∃ d0 ds qp xs', xs = d0.1 :: d0.2 :: fl ds ++ qp :: xs' ∧ SD d0 ∧ (d0.1.1 == Str.ofString "\"") = false ∧ qp.1 = Str.ofString "\n" ∧ (∀ p ∈ ds, SD p) ∧ (Str.ofString "" ++ d0.2.1) ++ cat2 ds = x ∧ xs'.map (·.1) = more := by
  obtain ⟨u, v, rfl, hu, hv⟩ := List.map_eq_append_iff.mp h
  obtain ⟨qp, xs', rfl, hq, hm⟩ := List.map_eq_cons_iff.mp hv
  obtain ⟨ps, rfl, h1, h2⟩ := pairs_of hu
  obtain ⟨hne, hd⟩ := hx
  generalize hl : x.cps.toList = l at *
  cases l with
  | nil => exact absurd rfl hne
  | cons c l =>
    obtain ⟨d0, ds, rfl, h0, hds⟩ := List.map_eq_cons_iff.mp h2
    have hb : (d0.1.1 == Str.ofString "\"") = false := by rw [h1 d0 (.head _)]; decide +kernel
    refine ⟨d0, ds, qp, xs', rfl, back_SD (h1 d0 (.head _)) h0 (hd c (.head _)), hb, hq.trans (by decide +kernel), ?_, ?_, hm⟩
    · intro p hp
      have : p.2.1 ∈ l.map sgn := hds ▸ List.mem_map_of_mem (f := fun p : (Str × Tok) × (Str × Tok) => p.2.1) hp
      obtain ⟨c', hc', e⟩ := List.mem_map.mp this
      exact back_SD (h1 p (.tail _ hp)) e.symm (hd c' (.tail _ hc'))
    · refine str_ext ?_
      rw [cps_app, cps_app, cps_cat2 hds, cps_empty, hl, h0]
      rfl
end Mine

end
section
theorem Mine.resetK1 : True := by
  w_top off
  trivial
open PySem PySem.W PyProof.Rows PySem.Calls PyProof.Rows.LCg
set_option Elab.async false
set_option maxRecDepth 100000
set_option maxHeartbeats 2000000
set_option linter.unusedVariables false
namespace Mine
theorem fillK1 : (PySem.Challenge.rw_wf0014_01, hd.heap_39) = (PySem.Challenge.rw_wf0014_01, hd.heap_39) := by
  k_fill
  rfl
noncomputable def lawS : Stmt := topS 20
noncomputable abbrev lawE (L fa : Addr) (ccd : Value) : Env := envOfC (Str.ofString "law") (fnS lawS) L fa ccd
noncomputable abbrev lawM (sc dr wo te re pl to tu du : Option Value) : Str → Option Value := fun y => if y = Str.ofString "script" then sc else if y = Str.ofString "draws" then dr else if y = Str.ofString "words" then wo else if y = Str.ofString "text" then te else if y = Str.ofString "read" then re else if y = Str.ofString "places" then pl else if y = Str.ofString "told" then to else if y = Str.ofString "turned" then tu else if y = Str.ofString "due" then du else none
section
variable {w : World} {mean : ExcName → Option Value} {mg mb : Str → Option Value} {A A₀ : Around} {outer : List Env} {base h₀ : Heap} {L fa : Nat} {ccd : Value} {m : Str → Option Value} {s : Shared} {Q : Flow → Shared → Prop} {E : Value → Shared → Prop}
  {dp un : Nat} {gd : Option (List Code)} {rest : List (Addr × Obj)}

theorem law_1 {sa : Addr} {its : List Value} {zs : List Int} {o1 : Obj} (B : Below A₀ base outer h₀) (X : (hd.heap_39 w.params).In h₀) (T : Top TP TL mean mg mb h₀) (hroom : dp + 40 < recursionLimit)
    (F : Fr h₀ L s.heap (lawM (some (.ref sa)) none none none none none none none none)) (N : News h₀ L s.heap ((L + 1, o1) :: rest)) (hr : ∀ p ∈ rest, p.1 ≠ L + 1)
    (hl : h₀.IsList sa its.toArray) (hI : IntsAre its zs) (hz : ¬ (63 : Int) < (zs.length : Int)) (e1 : o1.data = .cell none)
    (hret : ∀ (h' : Heap) (tk' D jj : Nat) (ys : List Value) (o1' : Obj) (cs : List Int), Fr h₀ L h' (lawM (some (.ref sa)) none none none none none none none none) → News h₀ L h' ((D, listOf ys.toArray jj) :: (L + 1, o1') :: rest) → L + 1 < D → IntsAre ys cs → cs.length ≤ 16 → (∀ c ∈ cs, 0 ≤ c ∧ c < 1000000) →
      o1'.data = .cell (some (.ref D)) → Q .next { s with heap := h', toks := tk' }) :
    wpAny (model PR w) (AA none dp (lawE L fa ccd) outer gd un) (exec (nth (fnB lawS) 0) (lawE L fa ccd)) Q E s := by
  have eS : fnS lawS = fnS lawS := rfl
  conv at eS => { rhs; whnf }
  have eB : nth (fnB lawS) 0 = nth (fnB lawS) 0 := rfl
  conv at eB => { rhs; whnf }
  dsimp only [lawE]
  rw [eS, eB]
  clear eS eB
  k_steps
  refine Stop.mk ?_
  refine ListComp_F (L := L) (m := lawM (some (.ref sa)) none none none none none none none none) (h₀ := h₀) rfl (by decide) rfl (by decide) ?_
  k_steps
  (with_reducible rename Fr _ _ _ _ => F9)
  (with_reducible rename News _ _ _ _ => N9)
  (with_reducible rename IntsAre _ (List.take 16 zs) => I9)
  rename_i D9 ws9 h9 _ _ l9
  unfold SrcF
  have lD : L ≠ D9 := fun e => (N9 _ (.head _)).2.1 e.symm
  refine it_list rfl (N9.isList (.head _)) F9 N9 fun it s₂ H => ?_
  rw [I9.length] at H
  have h16 : (zs.take 16).length ≤ 16 := by rw [List.length_take]; omega
  refine src_It F9 N9 (H _ _) (fun C => ⟨rfl, rfl⟩) (fun e => lD (List.mem_singleton.mp e)) (by rw [sizeLine_eq]; omega)
    (fun i ys news => ys.length = i ∧ IntsAre ys (((zs.take 16).take i).map fun k => k.fmod 1000000) ∧ news = (D9, listOf ws9.toArray 0) :: (L + 1, o1) :: rest) ?_ ?_ ?_ ?_ ?_ ?_
  · rintro i ys news ⟨_, _, rfl⟩; rfl
  · rintro i ys news ⟨e, _⟩; exact e
  · exact ⟨rfl, IntsAre.nil, rfl⟩
  · rintro i C oC D m₁ m₂ ys news₁ own h tk E' hi ⟨v, hv, rfl⟩ hoC ⟨hl₁, hy₁, rfl⟩ ho hnl hol F₁ N₁
    obtain ⟨p, tp, hp, rfl⟩ := ints_at I9 hv
    clear F9 N9 H hret ho hnl hol
    have hm2 : up1 (Str.ofString "cell") (Value.int p tp) m₁ (Str.ofString "cell") = some (Value.int p tp) := rfl
    k_steps
    refine EltPost.mk ((D9, listOf ws9.toArray 0) :: (L + 1, o1) :: rest) (by assumption) (by assumption) ⟨?_, ?_, rfl⟩
    · rw [List.length_append, List.length_singleton, hl₁]
    · rw [List.take_add_one, hp, Option.toList_some, List.map_append]
      exact ints_snoc hy₁
  · rintro D h₂ tk₂ ys news ⟨hl₂, hy₂, rfl⟩ F₂ N₂ hD
    rw [List.take_length] at hy₂
    clear F9 N9 H
    have lDL : D ≠ L + 1 := Nat.ne_of_gt (hD _ (.tail _ (.head _)))
    have lDL2 : D9 ≠ L + 1 := Nat.ne_of_gt l9.1
    have lDL3 : L + 1 < D := hD _ (.tail _ (.head _))
    clear hD
    k_steps
    (with_reducible rename Fr _ _ _ _ => F8)
    (with_reducible rename News _ _ _ _ => N8)
    refine hret _ _ D _ ys _ _ F8 (news_drop1 N8) lDL3 hy₂ (by rw [List.length_map]; exact h16) ?_ (by assumption)
    intro c hc
    obtain ⟨k, _, rfl⟩ := List.mem_map.mp hc
    exact ⟨Int.fmod_nonneg_of_pos _ (by decide), Int.fmod_lt_of_pos _ (by decide)⟩
  · exact fun hp tk h => h
end
end Mine

end
section
theorem Mine.resetK2 : True := by
  w_top off
  trivial
open PySem PySem.W PyProof.Rows PySem.Calls PyProof.Rows.LCg
set_option Elab.async false
set_option maxRecDepth 100000
set_option maxHeartbeats 2000000
set_option linter.unusedVariables false
namespace Mine
theorem fillK2' : (PySem.Challenge.rw_wf0014_01, hd.heap_39) = (PySem.Challenge.rw_wf0014_01, hd.heap_39) := by
  k_fill
  rfl
theorem lawM_dr {sc dr wo te re pl to tu du : Option Value} {v : Value} : (fun y => if y = Str.ofString "draws" then some v else lawM sc dr wo te re pl to tu du y) = lawM sc (some v) wo te re pl to tu du := by
  funext y
  by_cases h : y = Str.ofString "draws"
  · subst h; rfl
  · simp only [lawM, if_neg h]
theorem ints_fm {vs : List Value} {ns : List Int} (h : IntsAre vs ns) : ∀ ix : List Nat, IntsAre (ix.filterMap (vs[·]?)) (ix.filterMap (ns[·]?)) := by
  intro ix
  induction ix with
  | nil => exact IntsAre.nil
  | cons i r ih =>
    rw [List.filterMap_cons, List.filterMap_cons]
    cases hv : vs[i]? with
    | none =>
      have : ns[i]? = none := by
        rw [List.getElem?_eq_none_iff] at hv ⊢
        rw [← h.length]; exact hv
      rw [this]; exact ih
    | some v =>
      obtain ⟨a, t, ha, rfl⟩ := ints_at h hv
      rw [ha]
      exact IntsAre.cons _ _ ih
theorem ints_pick {vs : List Value} {ns : List Int} (h : IntsAre vs ns) (a b c : Option Int) : ∃ ns', IntsAre (slicePick vs.toArray a b c).toList ns' := by
  refine ⟨(sliceRange (sliceBounds a b c vs.toArray.size).1 (sliceBounds a b c vs.toArray.size).2.1 (sliceBounds a b c vs.toArray.size).2.2).filterMap (ns[·]?), ?_⟩
  have := ints_fm h (sliceRange (sliceBounds a b c vs.toArray.size).1 (sliceBounds a b c vs.toArray.size).2.1 (sliceBounds a b c vs.toArray.size).2.2)
  unfold slicePick
  simpa using this
section
variable {w : World} {mean : ExcName → Option Value} {mg mb : Str → Option Value} {A A₀ : Around} {outer : List Env} {base h₀ : Heap} {L fa : Nat} {ccd : Value} {m : Str → Option Value} {s : Shared} {Q : Flow → Shared → Prop} {E : Value → Shared → Prop}
  {dp un : Nat} {gd : Option (List Code)} {rest : List (Addr × Obj)} {sc dr wo te re pl to tu du : Option Value}
local macro_rules | `(tactic| walk_at "exec Assign cons ListComp") => `(tactic| refine Stop.go ?_)
local macro_rules | `(tactic| walk_at "call type:enumerate") => `(tactic| refine Stop.go ?_)
theorem law_2 {D jj : Nat} {cvs : List Value} {cs : List Int} {o1 : Obj} (B : Below A₀ base outer h₀) (X : (hd.heap_39 w.params).In h₀) (T : Top TP TL mean mg mb h₀) (hroom : dp + 40 < recursionLimit)
    (F : Fr h₀ L s.heap (lawM sc dr wo te re pl to tu du)) (N : News h₀ L s.heap ((D, listOf cvs.toArray jj) :: (L + 1, o1) :: rest)) (e1 : o1.data = .cell (some (.ref D))) (hI : IntsAre cvs cs) (hl : cs.length ≤ 16) (hc : ∀ c ∈ cs, 0 ≤ c ∧ c < 1000000)
    (hret : ∀ (h' : Heap) (tk' D' : Nat) (ys : List Value) (ds : List Int), Fr h₀ L h' (lawM sc (some (.ref D')) wo te re pl to tu du) → News h₀ L h' ((D', lst ys) :: (D, listOf cvs.toArray jj) :: (L + 1, o1) :: rest) → (∀ p ∈ rest, p.1 < D') → IntsAre ys ds → ds.length = 8 → Q .next { s with heap := h', toks := tk' }) :
    wpAny (model PR w) (AA none dp (lawE L fa ccd) outer gd un) (exec (nth (fnB lawS) 1) (lawE L fa ccd)) Q E s := by
  have eS : fnS lawS = fnS lawS := rfl
  conv at eS => { rhs; whnf }
  have eB : nth (fnB lawS) 1 = nth (fnB lawS) 1 := rfl
  conv at eB => { rhs; whnf }
  dsimp only [lawE]
  rw [eS, eB]
  clear eS eB
  k_steps
  refine Stop.mk ?_
  refine Assign_ListComp_F (L := L) (m := lawM sc dr wo te re pl to tu du) (h₀ := h₀) rfl rfl rfl (by decide) rfl (by decide) rfl rfl ?_
  k_steps
  refine Stop.mk ?_
  (with_reducible rename Fr _ _ _ _ => F9)
  (with_reducible rename News _ _ _ _ => N9)
  rename_i l9 h9 l91
  unfold SrcF
  obtain ⟨items, bs, hb8, hbI, N5⟩ : ∃ (items : Array Value) (bs : List Int), bs.length = 8 ∧ IntsAre items.toList bs ∧ News h₀ L _ ((l9, listOf items 0) :: (D, listOf cvs.toArray jj) :: (L + 1, o1) :: rest) := by
    refine ⟨_, [5, 270, 543, 24, 282, 521, 37, 274], rfl, ?_, N9⟩
    repeat' (first | exact IntsAre.nil | refine IntsAre.cons _ _ ?_)
  clear N9
  refine it_enum rfl (N5.isList (.head _)) F9 N5 fun it s₂ H => ?_
  have hn : items.size = 8 := by rw [← Array.length_toList, hbI.length, hb8]
  rw [hn] at H
  have lD : L ≠ l9 := fun e => (N5 _ (.head _)).2.1 e.symm
  refine src_It F9 N5 (H _ _ _ _ _ _) (fun C => ⟨rfl, rfl, rfl⟩) (fun e => lD (List.mem_singleton.mp e)) (by rw [sizeLine_eq]; omega)
    (fun i ys news => ys.length = i ∧ (∃ ds, ds.length = i ∧ IntsAre ys ds) ∧ news = (l9, listOf items 0) :: (D, listOf cvs.toArray jj) :: (L + 1, o1) :: rest) ?_ ?_ ?_ ?_ ?_ ?_
  · rintro i ys news ⟨_, _, rfl⟩; rfl
  · rintro i ys news ⟨e, _⟩; exact e
  · exact ⟨rfl, ⟨[], rfl, IntsAre.nil⟩, rfl⟩
  · rintro i C oC D' m₁ m₂ ys news₁ own h tk E' hi ⟨v, v', ⟨⟨tv, rfl⟩, hv'⟩, rfl⟩ hoC ⟨hl₁, ⟨ds, hdl, hy₁⟩, rfl⟩ ho hnl hol F₁ N₁
    obtain ⟨b, tb, hb, rfl⟩ := ints_at hbI (by rw [Array.getElem?_toList]; exact hv')
    clear F9 N5 H hret ho hnl hol hbI
    have hm2 : up1 (Str.ofString "begun") (Value.int b tb) (up1 (Str.ofString "place") (Value.int (i : Int) tv) m₁) (Str.ofString "begun") = some (Value.int b tb) := rfl
    have hm3 : up1 (Str.ofString "begun") (Value.int b tb) (up1 (Str.ofString "place") (Value.int (i : Int) tv) m₁) (Str.ofString "place") = some (Value.int (i : Int) tv) := rfl
    k_steps
    (with_reducible rename News _ _ _ _ => N6)
    (with_reducible rename Fr _ _ _ _ => F6)
    obtain ⟨ns', hns⟩ := ints_pick hI (some (i : Int)) none (some 8)
    refine LSm.sum_ints F6 N6 rfl (vs := (slicePick cvs.toArray (some (i : Int)) none (some 8)).toList) ⟨_, N6.get (.head _), rfl, _, rfl⟩ hns ?_
    intro h8 tk8 t8 F8 N8
    clear F6 N6
    k_steps
    refine EltPost.mk ((l9, listOf items 0) :: (D, listOf cvs.toArray jj) :: (L + 1, o1) :: rest) F8 (fun p hp => N8 p (.tail _ hp)) ⟨?_, ?_, rfl⟩
    · rw [List.length_append, List.length_singleton, hl₁]
    · exact ⟨ds ++ [_], by rw [List.length_append, List.length_singleton, hdl], ints_snoc hy₁⟩
  · rintro D' h₂ tk₂ ys news ⟨hl₂, ⟨ds, hdl, hy₂⟩, rfl⟩ F₂ N₂ hD
    rw [lawM_dr] at F₂
    exact hret _ _ D' ys ds F₂ (news_drop1 N₂) (fun p hp => hD p (.tail _ (.tail _ (.tail _ hp)))) hy₂ hdl
  · exact fun hp tk h => h
end
end Mine

end
section
theorem Mine.resetK3 : True := by
  w_top off
  trivial
open PySem PySem.W PyProof.Rows PySem.Calls PyProof.Rows.LCg
set_option Elab.async false
set_option maxRecDepth 100000
set_option maxHeartbeats 2000000
set_option linter.unusedVariables false
namespace Mine
theorem fillK3 : (PySem.Challenge.rw_wf0014_01, hd.heap_39) = (PySem.Challenge.rw_wf0014_01, hd.heap_39) := by
  k_fill
  rfl
theorem lawM_wo {sc dr wo te re pl to tu du : Option Value} {v : Value} : (fun y => if y = Str.ofString "words" then some v else lawM sc dr wo te re pl to tu du y) = lawM sc dr (some v) te re pl to tu du := by
  funext y
  by_cases h : y = Str.ofString "words"
  · subst h; rfl
  · simp only [lawM, if_neg h]
noncomputable def wd (n : Int) : Str := Str.ofString (toString n)
section
variable {w : World} {mean : ExcName → Option Value} {mg mb : Str → Option Value} {A A₀ : Around} {outer : List Env} {base h₀ : Heap} {L fa : Nat} {ccd : Value} {m : Str → Option Value} {s : Shared} {Q : Flow → Shared → Prop} {E : Value → Shared → Prop}
  {dp un : Nat} {gd : Option (List Code)} {rest : List (Addr × Obj)} {sc dr wo te re pl to tu du : Option Value}
local macro_rules | `(tactic| walk_at "exec Assign cons ListComp") => `(tactic| refine Stop.go ?_)
theorem law_3 {D : Nat} {dvs : List Value} {ds : List Int} (B : Below A₀ base outer h₀) (X : (hd.heap_39 w.params).In h₀) (T : Top TP TL mean mg mb h₀) (hroom : dp + 40 < recursionLimit)
    (F : Fr h₀ L s.heap (lawM sc (some (.ref D)) wo te re pl to tu du)) (N : News h₀ L s.heap ((D, lst dvs) :: rest)) (hI : IntsAre dvs ds) (hl : ds.length = 8)
    (hret : ∀ (h' : Heap) (tk' D' : Nat) (ys : List Value), Fr h₀ L h' (lawM sc (some (.ref D)) (some (.ref D')) te re pl to tu du) → News h₀ L h' ((D', lst ys) :: (D, lst dvs) :: rest) → (∀ p ∈ (D, lst dvs) :: rest, p.1 < D') → StrsAre ys (ds.map fun d => wd (d.fmod 256)) → Q .next { s with heap := h', toks := tk' }) :
    wpAny (model PR w) (AA none dp (lawE L fa ccd) outer gd un) (exec (nth (fnB lawS) 2) (lawE L fa ccd)) Q E s := by
  have eS : fnS lawS = fnS lawS := rfl
  conv at eS => { rhs; whnf }
  have eB : nth (fnB lawS) 2 = nth (fnB lawS) 2 := rfl
  conv at eB => { rhs; whnf }
  dsimp only [lawE]
  rw [eS, eB]
  clear eS eB
  k_steps
  refine Stop.mk ?_
  refine Assign_ListComp_F (L := L) (m := lawM sc (some (.ref D)) wo te re pl to tu du) (h₀ := h₀) rfl rfl rfl (by decide) rfl (by decide) rfl rfl ?_
  k_steps
  (with_reducible rename Fr _ _ _ _ => F9)
  (with_reducible rename News _ _ _ _ => N9)
  unfold SrcF
  have lD : L ≠ D := fun e => (N9 _ (.head _)).2.1 e.symm
  refine it_list rfl (show Heap.IsList _ D dvs.toArray from ⟨_, N9.get (.head _), rfl, _, rfl⟩) F9 N9 fun it s₂ H => ?_
  rw [hI.length] at H
  refine src_It F9 N9 (H _ _) (fun C => ⟨rfl, rfl⟩) (fun e => lD (List.mem_singleton.mp e)) (by rw [sizeLine_eq]; omega)
    (fun i ys news => ys.length = i ∧ StrsAre ys ((ds.take i).map fun d => wd (d.fmod 256)) ∧ news = (D, lst dvs) :: rest) ?_ ?_ ?_ ?_ ?_ ?_
  · rintro i ys news ⟨_, _, rfl⟩; rfl
  · rintro i ys news ⟨e, _⟩; exact e
  · exact ⟨rfl, StrsAre.nil, rfl⟩
  · rintro i C oC D' m₁ m₂ ys news₁ own h tk E' hi ⟨v, hv, rfl⟩ hoC ⟨hl₁, hy₁, rfl⟩ ho hnl hol F₁ N₁
    obtain ⟨p, tp, hp, rfl⟩ := ints_at hI hv
    clear F9 N9 H hret ho hnl hol
    have hm2 : up1 (Str.ofString "draw") (Value.int p tp) m₁ (Str.ofString "draw") = some (Value.int p tp) := rfl
    k_steps
    refine EltPost.mk ((D, lst dvs) :: rest) (by assumption) (by assumption) ⟨?_, ?_, rfl⟩
    · rw [List.length_append, List.length_singleton, hl₁]
    · rw [List.take_add_one, hp, Option.toList_some, List.map_append]
      exact strs_snoc hy₁
  · rintro D' h₂ tk₂ ys news ⟨hl₂, hy₂, rfl⟩ F₂ N₂ hD
    rw [lawM_wo] at F₂
    rw [List.take_length] at hy₂
    exact hret _ _ D' ys F₂ N₂ hD hy₂
  · exact fun hp tk h => h
end
end Mine

end
local macro_rules | `(tactic| walk_at "call ref") => `(tactic| refine Mine.Stop.go ?_)
section
theorem Mine.resetK4 : True := by
  w_top off
  trivial
local macro_rules | `(tactic| walk_at "none") => `(tactic| skip)
open PySem PySem.W PyProof.Rows PySem.Calls PyProof.Rows.LCg
set_option Elab.async false
set_option maxRecDepth 100000
set_option maxHeartbeats 2000000
set_option linter.unusedVariables false
namespace Mine
theorem fillK4' : (PySem.Challenge.rw_wf0014_01, hd.heap_39) = (PySem.Challenge.rw_wf0014_01, hd.heap_39) := by
  k_fill
  rfl
theorem lawM_te {sc dr wo te re pl to tu du : Option Value} {v : Value} : (fun y => if y = Str.ofString "text" then some v else lawM sc dr wo te re pl to tu du y) = lawM sc dr wo (some v) re pl to tu du := by
  funext y
  by_cases h : y = Str.ofString "text"
  · subst h; rfl
  · simp only [lawM, if_neg h]
section
variable {w : World} {mean : ExcName → Option Value} {mg mb : Str → Option Value} {A A₀ : Around} {outer : List Env} {base h₀ : Heap} {L fa : Nat} {ccd : Value} {m : Str → Option Value} {s : Shared} {Q : Flow → Shared → Prop} {E : Value → Shared → Prop}
  {dp un : Nat} {gd : Option (List Code)} {rest : List (Addr × Obj)} {sc dr wo te re pl to tu du : Option Value}
theorem law_4 {D Dw jw : Nat} {dvs wvs : List Value} {ds : List Int} {xs : List Str} (B : Below A₀ base outer h₀) (X : (hd.heap_39 w.params).In h₀) (T : Top TP TL mean mg mb h₀) (hroom : dp + 40 < recursionLimit)
    (F : Fr h₀ L s.heap (lawM sc (some (.ref D)) (some (.ref Dw)) te re pl to tu du)) (N : News h₀ L s.heap ((Dw, lst wvs) :: (D, lst dvs) :: rest)) (hI : IntsAre dvs ds) (hl : ds.length = 8) (hw : StrsAre wvs xs) (hxl : xs.length = 8) (hx : ∀ x ∈ xs, x.length < 10)
    (hret : ∀ (h' : Heap) (tk' : Nat) tx t', tx.cps.toList = wcps (xs.zip (ds.map fun d => d.fdiv 256)) → Fr h₀ L h' (lawM sc (some (.ref D)) (some (.ref Dw)) (some (.str tx t')) re pl to tu du) → News h₀ L h' ((Dw, lst wvs) :: (D, lst dvs) :: rest) → Q .next { s with heap := h', toks := tk' }) :
    wpAny (model PR w) (AA none dp (lawE L fa ccd) outer gd un) (exec (nth (fnB lawS) 3) (lawE L fa ccd)) Q E s := by
  have eS : fnS lawS = fnS lawS := rfl
  conv at eS => { rhs; whnf }
  have eB : nth (fnB lawS) 3 = nth (fnB lawS) 3 := rfl
  conv at eB => { rhs; whnf }
  dsimp only [lawE]
  rw [eS, eB]
  clear eS eB
  k_steps
  refine Stop.mk ?_
  refine ListComp_F (L := L) (m := lawM sc (some (.ref D)) (some (.ref Dw)) te re pl to tu du) (h₀ := h₀) rfl (by decide) rfl (by decide) ?_
  k_steps
  (with_reducible rename Fr _ _ _ _ => F9)
  (with_reducible rename News _ _ _ _ => N9)
  unfold SrcF
  have lD : L ≠ D := fun e => (N9 _ (.tail _ (.head _))).2.1 e.symm
  refine it_list rfl (show Heap.IsList _ D dvs.toArray from ⟨_, N9.get (.tail _ (.head _)), rfl, _, rfl⟩) F9 N9 fun it s₂ H => ?_
  rw [hI.length] at H
  refine src_It F9 N9 (H _ _) (fun C => ⟨rfl, rfl⟩) (fun e => lD (List.mem_singleton.mp e)) (by rw [sizeLine_eq]; omega)
    (fun i ys news => ys.length = i ∧ IntsAre ys ((ds.take i).map fun d => d.fdiv 256) ∧ news = (Dw, lst wvs) :: (D, lst dvs) :: rest) ?_ ?_ ?_ ?_ ?_ ?_
  · rintro i ys news ⟨_, _, rfl⟩; rfl
  · rintro i ys news ⟨e, _⟩; exact e
  · exact ⟨rfl, IntsAre.nil, rfl⟩
  · rintro i C oC D' m₁ m₂ ys news₁ own h tk E' hi ⟨v, hv, rfl⟩ hoC ⟨hl₁, hy₁, rfl⟩ ho hnl hol F₁ N₁
    obtain ⟨p, tp, hp, rfl⟩ := ints_at hI hv
    clear F9 N9 H hret ho hnl hol
    have hm2 : up1 (Str.ofString "draw") (Value.int p tp) m₁ (Str.ofString "draw") = some (Value.int p tp) := rfl
    k_steps
    refine EltPost.mk ((Dw, lst wvs) :: (D, lst dvs) :: rest) (by assumption) (by assumption) ⟨?_, ?_, rfl⟩
    · rw [List.length_append, List.length_singleton, hl₁]
    · rw [List.take_add_one, hp, Option.toList_some, List.map_append]
      exact ints_snoc hy₁
  · rintro D' h₂ tk₂ ys news ⟨hl₂, hy₂, rfl⟩ F₂ N₂ hD
    rw [List.take_length] at hy₂
    clear F9 N9 H hD
    k_steps
    refine Stop.mk ?_
    (with_reducible rename Fr _ _ _ _ => F8)
    (with_reducible rename News _ _ _ _ => N8)
    refine written_C (xs := xs) (ks := ds.map fun d => d.fdiv 256) (wvs := wvs) (mvs := ys) B F8 X N8 T rfl rfl (by omega) (.tail _ (.head _)) (.head _) hw hy₂ (by rw [List.length_map, hxl, hl]) (by omega) hx ?_
    intro h3 tk3 tx t3 hc3 F3 N3
    clear F8 N8
    dsimp only
    k_steps
    (with_reducible rename Fr _ _ _ _ => F5)
    (with_reducible rename News _ _ _ _ => N5)
    rw [lawM_te] at F5
    exact hret _ _ _ _ hc3 F5 (fun p hp => N5 p (.tail _ hp))
  · exact fun hp tk h => h
end
end Mine

end
section
theorem Mine.resetK5 : True := by
  w_top off
  trivial
open PySem PySem.W PyProof.Rows PySem.Calls PyProof.Rows.LCg
set_option Elab.async false
set_option maxRecDepth 100000
set_option maxHeartbeats 2000000
set_option linter.unusedVariables false
namespace Mine
theorem fillK5' : (PySem.Challenge.rw_wf0014_01, hd.heap_39) = (PySem.Challenge.rw_wf0014_01, hd.heap_39) := by
  k_fill
  rfl
set_option genInjectivity false in
set_option genSizeOf false in
/-- the lexer's constant parts -/
structure LX where
  (line ld pb st sd pc cc cs sg pb2 : Nat)
  (t1 t2 t3 t4 u2 e1 e2 e3 e4 e5 e6 e7 tq : Tok)
  qual : Str
  (doc md ct : Value)
  (occ oc : Obj)
  fvs : Array Value
noncomputable def LX.led (x : LX) (w : World) (u1 : Tok) (n : Int) (vs : List Value) (jp : Nat) (xs : List (Str × Tok)) (j : Nat) (rest : List (Addr × Obj)) : List (Addr × Obj) :=
  (x.line, instObj 59 x.ld) :: (x.ld, dictOf (lineD w x.t1 x.t2 x.t3 x.t4 u1 x.u2 n x.st x.pb) 4) :: (x.pb, listOf vs.toArray jp) :: (x.st, instObj 59 x.sd) :: (x.sd, dictOf (streamD w x.e1 x.e2 x.e3 x.e4 x.e5 x.e6 x.e7 x.pb2 x.pc) 5) ::
    (x.pc, pieceO x.qual x.cs x.doc x.md x.cc x.ct) :: (x.cc, x.occ) :: (x.cs, x.oc) :: (x.sg, listOf (SV xs).toArray j) :: rest
set_option genInjectivity false in
structure LX.Ok (x : LX) : Prop where
  occ : x.occ.data = .fields x.fvs
  fv : x.fvs[1]? = some (.str x.qual x.tq)
  oc : x.oc.data = .cell (some (.ref x.sg))
  o : x.cs < x.sg ∧ x.sg < x.sd ∧ x.sd < x.st ∧ x.st < x.pb2 ∧ x.pb2 < x.cc ∧ x.cc < x.pc ∧ x.pc < x.ld ∧ x.ld < x.line ∧ x.line < x.pb
theorem LX.Ok.ch {x : LX} (h : x.Ok) : Chain [x.cs, x.sg, x.sd, x.st, x.pb2, x.cc, x.pc, x.ld, x.line, x.pb] := by
  obtain ⟨a, b, c, d, e, f, g, i, j⟩ := h.o
  exact ⟨a, b, c, d, e, f, g, i, j, trivial⟩
section
variable {w : World} {mean : ExcName → Option Value} {mg mb : Str → Option Value} {A A₀ : Around} {outer : List Env} {base h₀ : Heap} {L fa : Nat} {ccd : Value} {m : Str → Option Value} {s : Shared} {Q : Flow → Shared → Prop} {E : Value → Shared → Prop}
  {dp un : Nat} {gd : Option (List Code)} {rest : List (Addr × Obj)} {sc dr wo te re pl to tu du : Option Value}
theorem law_5 {tx : Str} {tt : Tok} {o2 : Obj} (B : Below A₀ base outer h₀) (X : (hd.heap_39 w.params).In h₀) (T : Top TP TL mean mg mb h₀) (hroom : dp + 40 < recursionLimit) (H : CodeHd base 132 128)
    (F : Fr h₀ L s.heap (lawM sc dr wo (some (.str tx tt)) re pl to tu du)) (N : News h₀ L s.heap ((128, tabObj #[]) :: (L + 1 + 1, o2) :: rest)) (hr : ∀ p ∈ rest, p.1 ≠ 128) (hr2 : ∀ p ∈ rest, p.1 ≠ L + 1 + 1) (e2 : o2.data = .cell none) (l128 : 128 < L) (htx : tx.length < 1000)
    (hret : ∀ (h' : Heap) (tk' jp j : Nat) (x : LX) (u1 : Tok) (xs : List (Str × Tok)) (ps : Array Value) (o2' : Obj), x.Ok → xs.map (·.1) = signs tx → o2'.data = .cell (some (.ref x.line)) → (L + 1 + 1 < x.cs ∧ 128 < x.cs) → (∀ p ∈ rest, p.1 < x.cs) →
      Fr h₀ L h' (lawM sc dr wo (some (.str tx tt)) re pl to tu du) → News h₀ L h' (x.led w u1 1 [] jp xs j ((128, tabObj ps) :: (L + 1 + 1, o2') :: rest)) → Q .next { s with heap := h', toks := tk' }) :
    wpAny (model PR w) (AA none dp (lawE L fa ccd) outer gd un) (exec (nth (fnB lawS) 4) (lawE L fa ccd)) Q E s := by
  have eS : fnS lawS = fnS lawS := rfl
  conv at eS => { rhs; whnf }
  have eB : nth (fnB lawS) 4 = nth (fnB lawS) 4 := rfl
  conv at eB => { rhs; whnf }
  dsimp only [lawE]
  rw [eS, eB]
  clear eS eB
  k_steps
  refine Stop.mk ?_
  (with_reducible rename Fr _ _ _ _ => F9)
  (with_reducible rename News _ _ _ _ => N9)
  refine lexer_C (env := lawE L fa ccd) (rest := (L + 1 + 1, o2) :: rest) B F9 X T rfl rfl (by omega) H N9 ?_ htx ?_
  · intro p hp
    rcases List.mem_cons.mp hp with rfl | hp
    · exact Nat.ne_of_gt (Nat.lt_succ_of_lt (Nat.lt_succ_of_lt l128))
    · exact hr p hp
  intro h3 tk3 pb line ld pc cc pb2 st sd sg cs t1 t2 t3 t4 u1 u2 e1 e2' e3 e4 e5 e6 e7 tq qual doc ct occ o3 fvs ps xs D1 D2 D3 hxs lts lr F3 N3
  have lc2 : L + 1 + 1 < cs := lr _ (.head _)
  have z128 : 128 ≠ L + 1 + 1 := Nat.ne_of_lt (Nat.lt_succ_of_lt (Nat.lt_succ_of_lt l128))
  have C : Chain [L + 1 + 1, cs, sg, sd, st, pb2, cc, pc, ld, line, pb] := by
    obtain ⟨⟨_, a⟩, b, c, d, e, f, g, i, j⟩ := lts
    exact ⟨lc2, a, b, c, d, e, f, g, i, j, trivial⟩
  have z1 : pb ≠ L + 1 + 1 := chain_ne C 10 0
  have z2 : line ≠ L + 1 + 1 := chain_ne C 9 0
  have z3 : ld ≠ L + 1 + 1 := chain_ne C 8 0
  have z4 : pc ≠ L + 1 + 1 := chain_ne C 7 0
  have z5 : cc ≠ L + 1 + 1 := chain_ne C 6 0
  have z6 : pb2 ≠ L + 1 + 1 := chain_ne C 5 0
  have z7 : st ≠ L + 1 + 1 := chain_ne C 4 0
  have z8 : sd ≠ L + 1 + 1 := chain_ne C 3 0
  have z9 : sg ≠ L + 1 + 1 := chain_ne C 2 0
  have z10 : cs ≠ L + 1 + 1 := chain_ne C 1 0
  clear C
  clear F9 N9
  skip
  k_steps
  (with_reducible rename Fr _ _ _ _ => F5)
  (with_reducible rename News _ _ _ _ => N5)
  (with_reducible rename _ = Data.cell (some (Value.ref line)) => D5)
  refine hret _ _ 0 0 ⟨line, ld, pb, st, sd, pc, cc, cs, sg, pb2, t1, t2, t3, t4, u2, e1, e2', e3, e4, e5, e6, e7, tq, qual, doc, (mg (Str.ofString "__name__")).getD .none, ct, occ, o3, fvs⟩ u1 xs ps _ ⟨D1, D2, D3, ⟨lts.1.2, lts.2⟩⟩ hxs D5 ⟨lc2, lts.1.1⟩ (fun p hp => lr p (.tail _ hp)) F5 (news_pick N5 [1, 2, 0, 6, 7, 3, 4, 9, 8, 10, 11] 12)
end
end Mine

end
section
theorem Mine.resetK6 : True := by
  w_top off
  trivial
open PySem PySem.W PyProof.Rows PySem.Calls PyProof.Rows.LCg
set_option Elab.async false
set_option maxRecDepth 100000
set_option maxHeartbeats 2000000
set_option linter.unusedVariables false
namespace Mine
theorem fillK6 : (PySem.Challenge.rw_wf0014_01, hd.heap_39) = (PySem.Challenge.rw_wf0014_01, hd.heap_39) := by
  k_fill
  rfl
noncomputable def nl (k : Int) : Int := if k.fmod 3 = 0 then 0 else if k.fmod 3 = 1 then 0 else 1
theorem pce_0 {x : Str} {k : Int} (h : k.fmod 3 = 0) : (piece x k).cps.toList.map sgn = x.cps.toList.map sgn ++ [sgn 32] := by
  rw [piece, if_pos h, cps_app, List.map_append]; rfl
theorem pce_1 {x : Str} {k : Int} (h0 : k.fmod 3 ≠ 0) (h : k.fmod 3 = 1) : (piece x k).cps.toList.map sgn = sgn 34 :: (x.cps.toList.map sgn ++ [sgn 34]) := by
  rw [piece, if_neg h0, if_pos h, cps_app, cps_app, List.map_append, List.map_append, show (Str.ofString "\"").cps.toList = [34] from by decide]; rfl
theorem pce_2 {x : Str} {k : Int} (h0 : k.fmod 3 ≠ 0) (h : k.fmod 3 ≠ 1) : (piece x k).cps.toList.map sgn = (x.cps.toList.flatMap fun c => [92, c]).map sgn ++ [sgn 10] := by
  rw [piece, if_neg h0, if_neg h, cps_app, cps_joined, List.map_append, show (Str.ofString "\n").cps.toList = [10] from by decide]; rfl
section
variable {w : World} {mean : ExcName → Option Value} {mg mb : Str → Option Value} {A A₀ : Around} {env : Env} {outer : List Env} {base h₀ : Heap} {L : Nat} {m : Str → Option Value} {s : Shared} {Q E : Value → Shared → Prop}
  {dp un : Nat} {gd : Option (List Code)} {rest : List (Addr × Obj)} {x : LX} {u1 : Tok} {n : Int} {jp j : Nat} {xs : List (Str × Tok)}
theorem lex_tok {v : Str} {k : Int} {more : List Str} (B : Below A₀ base outer h₀) (F : Fr h₀ L s.heap m) (X : (hd.heap_39 w.params).In h₀) (T : Top TP TL mean mg mb h₀) (hf : env.frame = some L) (hke : env.scope.kind = .function) (hroom : dp + 32 < recursionLimit) (H : CodeHd base 132 128)
    (hx : x.Ok) (hd : Dig v) (hvl : v.length ≤ 10) (hxs : xs.map (·.1) = (piece v k).cps.toList.map sgn ++ more) (hlen : xs.length < 1000) (hsg : ∀ p ∈ rest, p.1 ≠ x.sg) (hld : ∀ p ∈ rest, p.1 ≠ x.ld) (N : News h₀ L s.heap (x.led w u1 n [] jp xs j rest))
    (hret : ∀ h' tk' j' t' u1' xs', xs'.map (·.1) = more → xs'.length ≤ xs.length → Fr h₀ L h' m → News h₀ L h' (x.led w u1' (n + nl k) [] jp xs' j' rest) → Q (.str v t') { s with heap := h', toks := tk' }) :
    wpAny (model PR w) (AA none dp env outer gd un) (call (.ref 49) [.ref x.line]) Q E s := by
  have C := hx.ch
  obtain ⟨hocc, hfv, hoc, ho⟩ := hx
  clear ho
  by_cases h0 : k.fmod 3 = 0
  · rw [pce_0 h0, List.append_assoc] at hxs
    obtain ⟨d0, ds, qp, xs', rfl, a1, a2, a3, a4, a5, a6, a7, a8⟩ := lex_p hd hxs
    refine tok_p B F X T hf hke hroom H hocc hfv hoc (chain_ne C 1 8) (chain_ne C 1 7) (chain_ne C 1 3) (chain_ne C 1 2) (chain_ne C 1 6) (chain_ne C 1 0) (chain_ne C 1 5) (chain_ne C 9 1) hsg N a1 a2 a3 a4 a5 a6 a7 (by omega) hlen ?_
    intro h' tk' j' t' F' N'
    refine hret h' tk' j' t' u1 xs' a8 (by simp; omega) F' ?_
    rw [show n + nl k = n by rw [nl, if_pos h0]; omega]
    exact N'
  by_cases h1 : k.fmod 3 = 1
  · rw [pce_1 h0 h1, List.cons_append, List.append_assoc] at hxs
    obtain ⟨q0, ds, qp, xs', rfl, a1, a2, a3, a4, a5⟩ := lex_q hd hxs
    refine tok_q B F X T hf hke hroom H hocc hfv hoc (chain_ne C 1 8) (chain_ne C 1 7) (chain_ne C 1 3) (chain_ne C 1 2) (chain_ne C 1 6) (chain_ne C 1 0) (chain_ne C 1 5) (chain_ne C 9 1) hsg N a1 a2 a3 a4 (by omega) hlen ?_
    intro h' tk' j' t' F' N'
    refine hret h' tk' j' t' u1 xs' a5 (by simp; omega) F' ?_
    rw [show n + nl k = n by rw [nl, if_neg h0, if_pos h1]; omega]
    exact N'
  · rw [pce_2 h0 h1, List.append_assoc] at hxs
    obtain ⟨d0, ds, qp, xs', rfl, a1, a2, a3, a4, a5, a6⟩ := lex_b hd hxs
    refine tok_b B F X T hf hke hroom H hocc hfv hoc (chain_ne C 1 8) (chain_ne C 1 7) (chain_ne C 1 3) (chain_ne C 1 2) (chain_ne C 1 6) (chain_ne C 1 0) (chain_ne C 1 5) (chain_ne C 9 1) hsg (chain_ne C 7 8) (chain_ne C 7 3) (chain_ne C 7 2) (chain_ne C 7 6) (chain_ne C 7 0) (chain_ne C 7 5) (chain_ne C 9 7) hld N a1 a2 a3 a4 a5 (by omega) hlen ?_
    intro h' tk' j' t' u1' F' N'
    refine hret h' tk' j' t' u1' xs' a6 (by simp; omega) F' ?_
    rw [show n + nl k = n + 1 by rw [nl, if_neg h0, if_neg h1]]
    exact N'
theorem lex_end (B : Below A₀ base outer h₀) (F : Fr h₀ L s.heap m) (X : (hd.heap_39 w.params).In h₀) (T : Top TP TL mean mg mb h₀) (hf : env.frame = some L) (hke : env.scope.kind = .function) (hroom : dp + 32 < recursionLimit) (H : CodeHd base 132 128)
    (hx : x.Ok) (hsg : ∀ p ∈ rest, p.1 ≠ x.sg) (N : News h₀ L s.heap (x.led w u1 n [] jp [] j rest))
    (hret : ∀ h' tk' t', Fr h₀ L h' m → News h₀ L h' (x.led w u1 n [] jp [] j rest) → Q (.str (Str.ofString "") t') { s with heap := h', toks := tk' }) :
    wpAny (model PR w) (AA none dp env outer gd un) (call (.ref 49) [.ref x.line]) Q E s := by
  have C := hx.ch
  obtain ⟨hocc, hfv, hoc, ho⟩ := hx
  clear ho
  refine tok_e B F X T hf hke hroom H hocc hfv hoc (chain_ne C 1 8) (chain_ne C 1 7) (chain_ne C 1 3) (chain_ne C 1 2) (chain_ne C 1 6) (chain_ne C 1 0) (chain_ne C 1 5) (chain_ne C 9 1) hsg N ?_
  intro h' tk' t' F' N'
  exact hret h' tk' t' F' N'
end
end Mine

end
section
theorem Mine.resetK7 : True := by
  w_top off
  trivial
open PySem PySem.W PyProof.Rows PySem.Calls PyProof.Rows.LCg
set_option Elab.async false
set_option maxRecDepth 100000
set_option maxHeartbeats 2000000
set_option linter.unusedVariables false
namespace Mine
theorem fillK7 : (PySem.Challenge.rw_wf0014_01, hd.heap_39) = (PySem.Challenge.rw_wf0014_01, hd.heap_39) := by
  k_fill
  rfl
theorem lawM_re {sc dr wo te re pl to tu du : Option Value} {v : Value} : (fun y => if y = Str.ofString "read" then some v else lawM sc dr wo te re pl to tu du y) = lawM sc dr wo te (some v) pl to tu du := by
  funext y
  by_cases h : y = Str.ofString "read"
  · subst h; rfl
  · simp only [lawM, if_neg h]
noncomputable def tailT (ps : List (Str × Int)) : List Str := ps.flatMap fun p => (piece p.1 p.2).cps.toList.map sgn
theorem tailT_eq (ps : List (Str × Int)) : tailT ps = (wcps ps).map sgn := by
  unfold tailT wcps
  rw [List.map_flatMap]
noncomputable def nlS (ps : List (Str × Int)) : Int := (ps.map fun p => nl p.2).sum
section
variable {w : World} {mean : ExcName → Option Value} {mg mb : Str → Option Value} {A A₀ : Around} {outer : List Env} {base h₀ : Heap} {L fa : Nat} {ccd : Value} {m : Str → Option Value} {s : Shared} {Q : Flow → Shared → Prop} {E : Value → Shared → Prop}
  {dp un : Nat} {gd : Option (List Code)} {rest : List (Addr × Obj)} {sc dr wo te re pl to tu du : Option Value} {x : LX} {u1 : Tok} {jp j : Nat} {xs : List (Str × Tok)}
local macro_rules | `(tactic| walk_at "exec Assign cons ListComp") => `(tactic| refine Stop.go ?_)
theorem law_6 {Dw : Nat} {o2 : Obj} {wvs : List Value} {vs : List Str} {ks : List Int} (B : Below A₀ base outer h₀) (X : (hd.heap_39 w.params).In h₀) (T : Top TP TL mean mg mb h₀) (hroom : dp + 40 < recursionLimit) (H : CodeHd base 132 128)
    (F : Fr h₀ L s.heap (lawM sc dr (some (.ref Dw)) te re pl to tu du)) (N : News h₀ L s.heap (x.led w u1 1 [] jp xs j ((L + 1 + 1, o2) :: rest))) (hx : x.Ok) (e2 : o2.data = .cell (some (.ref x.line))) (lc : L + 1 + 1 < x.cs) (hr : ∀ p ∈ rest, p.1 < x.cs)
    (hm : (Dw, lst wvs) ∈ rest) (hw : StrsAre wvs vs) (hd : ∀ v ∈ vs, Dig v ∧ v.length ≤ 10) (hl : vs.length = ks.length) (hl8 : vs.length < 20) (hxs : xs.map (·.1) = tailT (vs.zip ks)) (hxl : xs.length < 1000)
    (hret : ∀ (h' : Heap) (tk' D j' : Nat) (u1' : Tok) (ys : List Value), StrsAre ys vs → Fr h₀ L h' (lawM sc dr (some (.ref Dw)) te (some (.ref D)) pl to tu du) → News h₀ L h' ((D, lst ys) :: x.led w u1' (1 + nlS (vs.zip ks)) [] jp [] j' ((L + 1 + 1, o2) :: rest)) →
      (∀ p ∈ rest, p.1 < D) → (x.pb < D) → Q .next { s with heap := h', toks := tk' }) :
    wpAny (model PR w) (AA none dp (lawE L fa ccd) outer gd un) (exec (nth (fnB lawS) 5) (lawE L fa ccd)) Q E s := by
  have eS : fnS lawS = fnS lawS := rfl
  conv at eS => { rhs; whnf }
  have eB : nth (fnB lawS) 5 = nth (fnB lawS) 5 := rfl
  conv at eB => { rhs; whnf }
  dsimp only [lawE]
  rw [eS, eB]
  clear eS eB
  k_steps
  refine Stop.mk ?_
  refine Assign_ListComp_F (L := L) (m := lawM sc dr (some (.ref Dw)) te re pl to tu du) (h₀ := h₀) rfl rfl rfl (by decide) rfl (by decide) rfl rfl ?_
  k_steps
  unfold SrcF
  have hmd : (Dw, lst wvs) ∈ x.led w u1 1 [] jp xs j ((L + 1 + 1, o2) :: rest) := by
    unfold LX.led
    exact .tail _ (.tail _ (.tail _ (.tail _ (.tail _ (.tail _ (.tail _ (.tail _ (.tail _ (.tail _ hm)))))))))
  have lD : L ≠ Dw := fun e => (N _ hmd).2.1 e.symm
  refine it_list rfl (show Heap.IsList _ Dw wvs.toArray from ⟨_, N.get hmd, rfl, _, rfl⟩) F N fun it s₂ H1 => ?_
  rw [strs_len hw] at H1
  have hzl : (vs.zip ks).length = vs.length := by rw [List.length_zip]; omega
  refine src_It F N (H1 _ _) (fun C => ⟨rfl, rfl⟩) (fun e => lD (List.mem_singleton.mp e)) (by rw [sizeLine_eq]; omega)
    (fun i ys news => ∃ u1' xs' j', ys.length = i ∧ StrsAre ys (vs.take i) ∧ xs'.map (·.1) = tailT ((vs.zip ks).drop i) ∧ xs'.length < 1000 ∧ news = x.led w u1' (1 + nlS ((vs.zip ks).take i)) [] jp xs' j' ((L + 1 + 1, o2) :: rest)) ?_ ?_ ?_ ?_ ?_ ?_
  · rintro i ys news ⟨_, _, _, _, _, _, _, rfl⟩; rfl
  · rintro i ys news ⟨_, _, _, e, _⟩; exact e
  · exact ⟨u1, xs, j, rfl, StrsAre.nil, hxs, hxl, rfl⟩
  · rintro i C oC D' m₁ m₂ ys news₁ own h tk E' hi ⟨v, hv, rfl⟩ hoC ⟨u1', xs', j', hl₁, hy₁, hxs', hxl', rfl⟩ ho hnl hol F₁ N₁
    have hi2 : i < (vs.zip ks).length := by omega
    have hz : (vs.zip ks)[i]? = some ((vs.zip ks)[i]) := List.getElem?_eq_getElem hi2
    generalize hp : (vs.zip ks)[i] = p at hz
    obtain ⟨v0, k0⟩ := p
    have hv0 := (List.getElem?_zip_eq_some.mp hz).1
    rw [List.drop_eq_getElem_cons hi2, hp] at hxs'
    have hdv := hd v0 (List.mem_of_getElem? hv0)
    have oo := hx.o
    have hsgD : ∀ p ∈ (C, oC) :: (D', lst ys) :: (((L + 1 + 1, o2) :: rest) ++ own), p.1 ≠ x.sg ∧ p.1 ≠ x.ld := by
      have hcl : x.cs < x.ld := chain_lt hx.ch 0 7
      have hC := hnl _ (show (x.sg, listOf (SV xs').toArray j') ∈ _ by unfold LX.led; exact .tail _ (.tail _ (.tail _ (.tail _ (.tail _ (.tail _ (.tail _ (.tail _ (.head _)))))))))
      have hC2 := hnl _ (show (x.ld, _) ∈ _ by unfold LX.led; exact .tail _ (.head _))
      intro p hp
      simp only [List.mem_cons, List.mem_append] at hp
      rcases hp with rfl | rfl | (rfl | hp) | hp
      · exact ⟨Nat.ne_of_gt hC.2, Nat.ne_of_gt hC2.2⟩
      · exact ⟨Nat.ne_of_gt hC.1, Nat.ne_of_gt hC2.1⟩
      · exact ⟨Nat.ne_of_lt (Nat.lt_trans lc oo.1), Nat.ne_of_lt (Nat.lt_trans lc hcl)⟩
      · exact ⟨Nat.ne_of_lt (Nat.lt_trans (hr p hp) oo.1), Nat.ne_of_lt (Nat.lt_trans (hr p hp) hcl)⟩
      · rcases ho p hp with h1 | h1
        · have : p.1 < x.cs := by rw [List.mem_singleton.mp h1]; exact hr _ hm
          exact ⟨Nat.ne_of_lt (Nat.lt_trans this oo.1), Nat.ne_of_lt (Nat.lt_trans this hcl)⟩
        · exact ⟨Nat.ne_of_gt (h1 x.sg (by simp [LX.led])), Nat.ne_of_gt (h1 x.ld (by simp [LX.led]))⟩
    clear F N H1 hret ho hnl hol
    dsimp only [LX.led, List.cons_append] at N₁
    rw [List.cons_append] at hsgD
    generalize hrest : rest ++ own = rest' at *
    k_steps
    refine Stop.mk ?_
    show wpAny _ _ (call (Value.ref 49) [Value.ref x.line]) _ _ _
    have hxs2 : xs'.map (·.1) = (piece v0 k0).cps.toList.map sgn ++ tailT ((vs.zip ks).drop (i + 1)) := by
      rw [hxs']
      unfold tailT
      rw [List.flatMap_cons]
    refine lex_tok (x := x) (u1 := u1') (n := 1 + nlS ((vs.zip ks).take i)) (jp := jp) (j := j') (rest := (C, oC) :: (D', lst ys) :: (L + 1 + 1, o2) :: rest') B F₁ X T rfl rfl (by omega) H hx hdv.1 hdv.2 hxs2 hxl' (fun p hp => (hsgD p hp).1) (fun p hp => (hsgD p hp).2) (news_pick N₁ [2, 3, 4, 5, 6, 7, 8, 9, 10, 0, 1, 11] 12) ?_
    intro h' tk' j'' t' u1'' xs'' e1 e3 F' N'
    subst hrest
    refine EltPost.mk (x.led w u1'' (1 + nlS ((vs.zip ks).take i) + nl k0) [] jp xs'' j'' ((L + 1 + 1, o2) :: rest)) F' (news_pick N' [9, 10, 0, 1, 2, 3, 4, 5, 6, 7, 8, 11] 12) ⟨u1'', xs'', j'', ?_, ?_, e1, by omega, ?_⟩
    · rw [List.length_append, List.length_singleton, hl₁]
    · rw [List.take_add_one, hv0]
      exact strs_snoc hy₁
    · have : nlS ((vs.zip ks).take (i + 1)) = nlS ((vs.zip ks).take i) + nl k0 := by
        rw [List.take_add_one, hz]
        unfold nlS
        simp
      rw [this, Int.add_assoc]
  · rintro D₂ h₂ tk₂ ys news ⟨u1', xs', j', hl₂, hy₂, hxs', hxl', rfl⟩ F₂ N₂ hD
    rw [lawM_re] at F₂
    rw [List.take_length] at hy₂
    rw [← hzl, List.drop_length] at hxs'
    rw [← hzl, List.take_length] at N₂
    have e0 : xs' = [] := List.map_eq_nil_iff.mp hxs'
    subst e0
    refine hret _ _ D₂ j' u1' ys hy₂ F₂ N₂ ?_ ?_
    · intro p hp
      exact hD p (by unfold LX.led; exact .tail _ (.tail _ (.tail _ (.tail _ (.tail _ (.tail _ (.tail _ (.tail _ (.tail _ (.tail _ hp))))))))))
    · exact hD (x.pb, _) (by unfold LX.led; exact .tail _ (.tail _ (.head _)))
  · exact fun hp tk h => h
end
end Mine

end
local macro_rules | `(tactic| walk_at "compareOp NotEq ref ref") => `(tactic| refine Mine.Stop.go ?_)
section
theorem Mine.resetK8 : True := by
  w_top off
  trivial
local macro_rules | `(tactic| walk_at "none") => `(tactic| skip)
open PySem PySem.W PyProof.Rows PySem.Calls PyProof.Rows.LCg
set_option Elab.async false
set_option maxRecDepth 100000
set_option maxHeartbeats 2000000
set_option linter.unusedVariables false
namespace Mine
theorem fillK8 : (PySem.Challenge.rw_wf0014_01, hd.heap_39) = (PySem.Challenge.rw_wf0014_01, hd.heap_39) := by
  k_fill
  rfl
theorem st_canLay : ∀ ns : List Str, (∀ v ∈ ns, PyData.strOk v = true) → PyData.canLayAll0 (ns.map PyData.str) = true
  | [], _ => rfl
  | a :: r, h => by simp [PyData.canLayAll0, PyData.canLay0, st_canLay r fun v hv => h v (.tail _ hv), h a (.head _)]
theorem st_depth : ∀ ns : List Str, PyData.depthAll (ns.map PyData.str) = 0
  | [] => rfl
  | _ :: r => by simp [PyData.depthAll, PyData.depth, st_depth r]
theorem st_shaped (ns : List Str) (h : ∀ v ∈ ns, PyData.strOk v = true) : SeqAt.shaped (.list (ns.map PyData.str)) = true := by
  simp [SeqAt.shaped, PyData.canLay0, PyData.depth, st_canLay ns h, st_depth]
theorem st_carried : ∀ {vs : List Value} {ns : List Str}, StrsAre vs ns → CarriedAll vs (ns.map PyData.str)
  | _, _, .nil => .nil
  | _, _, .cons _ t r => .cons (.str _ t) (st_carried r)
theorem ne_strs {prog : Program} {w : World} {A : Around} {E Q : Value → Shared → Prop} {s : Shared} {a b : Addr} {xs ys : List Value} {zs : List Str} (ha : s.heap.IsList a xs.toArray) (hb : s.heap.IsList b ys.toArray) (hi : StrsAre xs zs) (hj : StrsAre ys zs) (hok : ∀ v ∈ zs, PyData.strOk v = true) (hu : A.units + 64 < cLine) (h : Q (.bool false) s) :
    wpAny (model prog w) A (compareOp .NotEq (.ref a) (.ref b)) Q E s :=
  ne_dataH_same (reads_newData ha (st_carried hi)) (reads_newData hb (st_carried hj)) (st_shaped _ hok) (st_shaped _ hok) hu (SeqAt.noMix_of_shape (.list .str) rfl _ _ (list_map_has fun _ => rfl) (list_map_has fun _ => rfl)) (by rw [same_refl]; exact h)
section
variable {w : World} {mean : ExcName → Option Value} {mg mb : Str → Option Value} {A A₀ : Around} {outer : List Env} {base h₀ : Heap} {L fa : Nat} {ccd : Value} {m : Str → Option Value} {s : Shared} {Q : Flow → Shared → Prop} {E : Value → Shared → Prop}
  {dp un : Nat} {gd : Option (List Code)} {rest : List (Addr × Obj)} {sc dr wo te re pl to tu du : Option Value} {x : LX} {u1 : Tok} {jp j : Nat} {xs : List (Str × Tok)}
theorem law_7 {Dw Dr : Nat} {o2 : Obj} {wvs rvs : List Value} {vs : List Str} {n : Int} {tx : Str} {tt : Tok} (B : Below A₀ base outer h₀) (X : (hd.heap_39 w.params).In h₀) (T : Top TP TL mean mg mb h₀) (hroom : dp + 40 < recursionLimit) (hun : un + 64 < cLine) (H : CodeHd base 132 128)
    (F : Fr h₀ L s.heap (lawM sc dr (some (.ref Dw)) (some (.str tx tt)) (some (.ref Dr)) pl to tu du)) (N : News h₀ L s.heap ((Dr, lst rvs) :: (Dw, lst wvs) :: x.led w u1 n [] jp [] j ((L + 1 + 1, o2) :: rest))) (hx : x.Ok) (e2 : o2.data = .cell (some (.ref x.line))) (lc : L + 1 + 1 < x.cs) (hr : ∀ p ∈ rest, p.1 < x.cs)
    (hw : StrsAre wvs vs) (hrd : StrsAre rvs vs) (hok : ∀ v ∈ vs, PyData.strOk v = true) (hDr : x.pb < Dr) (hDw : Dw < x.cs) (hcnt : n = 1 + PySem.Txt.count tx (Str.ofString "\n")) (hl8 : vs.length < 20) (htx : tx.length < 1000)
    (hret : ∀ (h' : Heap) (tk' : Nat), Fr h₀ L h' (lawM sc dr (some (.ref Dw)) (some (.str tx tt)) (some (.ref Dr)) pl to tu du) → News h₀ L h' ((Dr, lst rvs) :: (Dw, lst wvs) :: x.led w u1 n [] jp [] j ((L + 1 + 1, o2) :: rest)) → Q .next { s with heap := h', toks := tk' }) :
    wpAny (model PR w) (AA none dp (lawE L fa ccd) outer gd un) (exec (nth (fnB lawS) 6) (lawE L fa ccd)) Q E s := by
  have eS : fnS lawS = fnS lawS := rfl
  conv at eS => { rhs; whnf }
  have eB : nth (fnB lawS) 6 = nth (fnB lawS) 6 := rfl
  conv at eB => { rhs; whnf }
  dsimp only [lawE]
  rw [eS, eB]
  clear eS eB
  dsimp only [LX.led] at N
  k_steps
  refine Stop.mk ?_
  refine ne_strs (zs := vs) ⟨_, N.get (.head _), rfl, _, rfl⟩ ⟨_, N.get (.tail _ (.head _)), rfl, _, rfl⟩ hrd hw hok (by exact hun) ?_
  k_steps
  refine Stop.mk ?_
  have oo := hx.o
  have hcl : x.cs < x.ld := chain_lt hx.ch 0 7
  have hlb : x.ld < x.pb := chain_lt hx.ch 7 9
  have hsb : x.sg < x.pb := chain_lt hx.ch 1 9
  show wpAny _ _ (call (Value.ref 49) [Value.ref x.line]) _ _ _
  have hne : ∀ p ∈ (Dr, lst rvs) :: (Dw, lst wvs) :: (L + 1 + 1, o2) :: rest, p.1 ≠ x.sg ∧ p.1 ≠ x.ld := by
    intro p hp
    simp only [List.mem_cons] at hp
    rcases hp with rfl | rfl | rfl | hp
    · exact ⟨Nat.ne_of_gt (Nat.lt_trans hsb hDr), Nat.ne_of_gt (Nat.lt_trans hlb hDr)⟩
    · exact ⟨Nat.ne_of_lt (Nat.lt_trans hDw oo.1), Nat.ne_of_lt (Nat.lt_trans hDw hcl)⟩
    · exact ⟨Nat.ne_of_lt (Nat.lt_trans lc oo.1), Nat.ne_of_lt (Nat.lt_trans lc hcl)⟩
    · exact ⟨Nat.ne_of_lt (Nat.lt_trans (hr p hp) oo.1), Nat.ne_of_lt (Nat.lt_trans (hr p hp) hcl)⟩
  refine lex_end (x := x) (u1 := u1) (n := n) (jp := jp) (j := j) (rest := (Dr, lst rvs) :: (Dw, lst wvs) :: (L + 1 + 1, o2) :: rest) B F X T rfl rfl (by omega) H hx (fun p hp => (hne p hp).1) (news_pick N [2, 3, 4, 5, 6, 7, 8, 9, 10, 0, 1, 11] 12) ?_
  intro h1 tk1 t1 F1 N1
  clear F N
  dsimp only [LX.led] at N1
  skip
  k_steps
  · exact absurd hcnt (by assumption)
  · refine hret _ _ F1 (news_pick N1 [9, 10, 0, 1, 2, 3, 4, 5, 6, 7, 8, 11] 12)
end
end Mine

end
section
theorem Mine.resetK9 : True := by
  w_top off
  trivial
open PySem PySem.W PyProof.Rows PySem.Calls PyProof.Rows.LCg
set_option Elab.async false
set_option maxRecDepth 100000
set_option maxHeartbeats 2000000
set_option linter.unusedVariables false
namespace Mine
theorem fillK9 : (PySem.Challenge.rw_wf0014_01, hd.heap_39) = (PySem.Challenge.rw_wf0014_01, hd.heap_39) := by
  k_fill
  rfl
theorem lawM_pl {sc dr wo te re pl to tu du : Option Value} {v : Value} : (fun y => if y = Str.ofString "places" then some v else lawM sc dr wo te re pl to tu du y) = lawM sc dr wo te re (some v) to tu du := by
  funext y
  by_cases h : y = Str.ofString "places"
  · subst h; rfl
  · simp only [lawM, if_neg h]
theorem lawM_to {sc dr wo te re pl to tu du : Option Value} {v : Value} : (fun y => if y = Str.ofString "told" then some v else lawM sc dr wo te re pl to tu du y) = lawM sc dr wo te re pl (some v) tu du := by
  funext y
  by_cases h : y = Str.ofString "told"
  · subst h; rfl
  · simp only [lawM, if_neg h]
section
variable {w : World} {mean : ExcName → Option Value} {mg mb : Str → Option Value} {A A₀ : Around} {outer : List Env} {base h₀ : Heap} {L fa : Nat} {ccd : Value} {m : Str → Option Value} {s : Shared} {Q : Flow → Shared → Prop} {E : Value → Shared → Prop}
  {dp un : Nat} {gd : Option (List Code)} {rest : List (Addr × Obj)} {sc dr wo te re pl to tu du : Option Value} {x : LX} {u1 : Tok} {jp j : Nat} {xs : List (Str × Tok)}
theorem law_8 {Dr : Nat} {o3 : Obj} {rvs : List Value} {ds : List Int} (B : Below A₀ base outer h₀) (X : (hd.heap_39 w.params).In h₀) (T : Top TP TL mean mg mb h₀) (hroom : dp + 40 < recursionLimit)
    (F : Fr h₀ L s.heap (lawM sc dr wo te (some (.ref Dr)) pl to tu du)) (N : News h₀ L s.heap ((Dr, lst rvs) :: (L + 1 + 1 + 1, o3) :: rest)) (e3 : o3.data = .cell none) (hr : ∀ p ∈ rest, p.1 ≠ L + 1 + 1 + 1) (hDr : L + 1 + 1 + 1 < Dr)
    (hrd : StrsAre rvs (ds.map fun d => wd (d.fmod 256))) (hl8 : ds.length = 8)
    (hret : ∀ (h' : Heap) (tk' D : Nat) (ys : List Value) (o3' : Obj), IntsAre ys (ds.map fun d => d.fmod 256) → o3'.data = .cell (some (.ref D)) → (∀ p ∈ rest, p.1 < D) → L + 1 + 1 + 1 < D → Fr h₀ L h' (lawM sc dr wo te (some (.ref Dr)) pl to tu du) → News h₀ L h' ((D, lst ys) :: (Dr, lst rvs) :: (L + 1 + 1 + 1, o3') :: rest) → Q .next { s with heap := h', toks := tk' }) :
    wpAny (model PR w) (AA none dp (lawE L fa ccd) outer gd un) (exec (nth (fnB lawS) 7) (lawE L fa ccd)) Q E s := by
  have eS : fnS lawS = fnS lawS := rfl
  conv at eS => { rhs; whnf }
  have eB : nth (fnB lawS) 7 = nth (fnB lawS) 7 := rfl
  conv at eB => { rhs; whnf }
  dsimp only [lawE]
  rw [eS, eB]
  clear eS eB
  k_steps
  refine Stop.mk ?_
  refine ListComp_F (L := L) (m := lawM sc dr wo te (some (.ref Dr)) pl to tu du) (h₀ := h₀) rfl (by decide) rfl (by decide) ?_
  k_steps
  unfold SrcF
  have lD : L ≠ Dr := fun e => (N _ (.head _)).2.1 e.symm
  refine it_list rfl (show Heap.IsList _ Dr rvs.toArray from ⟨_, N.get (.head _), rfl, _, rfl⟩) F N fun it s₂ H => ?_
  rw [strs_len hrd, List.length_map] at H
  refine src_It F N (H _ _) (fun C => ⟨rfl, rfl⟩) (fun e => lD (List.mem_singleton.mp e)) (by rw [sizeLine_eq]; omega)
    (fun i ys news => ys.length = i ∧ IntsAre ys ((ds.take i).map fun d => d.fmod 256) ∧ news = (Dr, lst rvs) :: (L + 1 + 1 + 1, o3) :: rest) ?_ ?_ ?_ ?_ ?_ ?_
  · rintro i ys news ⟨_, _, rfl⟩; rfl
  · rintro i ys news ⟨e, _⟩; exact e
  · exact ⟨rfl, IntsAre.nil, rfl⟩
  · rintro i C oC D' m₁ m₂ ys news₁ own h tk E' hi ⟨v, hv, rfl⟩ hoC ⟨hl₁, hy₁, rfl⟩ ho hnl hol F₁ N₁
    obtain ⟨z, tz, hz, rfl⟩ := strs_at hrd hv
    rw [List.getElem?_map] at hz
    obtain ⟨d, hd, rfl⟩ := Option.map_eq_some_iff.mp hz
    clear F N H hret ho hnl hol
    unfold wd at *
    have hm2 : up1 (Str.ofString "word") (Value.str (Str.ofString (toString (d.fmod 256))) tz) m₁ (Str.ofString "word") = some (Value.str (Str.ofString (toString (d.fmod 256))) tz) := rfl
    k_steps
    refine EltPost.mk ((Dr, lst rvs) :: (L + 1 + 1 + 1, o3) :: rest) (by assumption) (by assumption) ⟨?_, ?_, rfl⟩
    · rw [List.length_append, List.length_singleton, hl₁]
    · rw [List.take_add_one, hd, Option.toList_some, List.map_append]
      exact ints_snoc hy₁
  · rintro D h₂ tk₂ ys news ⟨hl₂, hy₂, rfl⟩ F₂ N₂ hD
    rw [List.take_length] at hy₂
    clear F N H
    have z1 : D ≠ L + 1 + 1 + 1 := Nat.ne_of_gt (hD _ (.tail _ (.head _)))
    have z2 : Dr ≠ L + 1 + 1 + 1 := Nat.ne_of_gt hDr
    have z3 : L + 1 + 1 + 1 < D := hD _ (.tail _ (.head _))
    have z4 : ∀ p ∈ rest, p.1 < D := fun p hp => hD p (.tail _ (.tail _ hp))
    clear hD
    k_steps
    (with_reducible rename Fr _ _ _ _ => F8)
    (with_reducible rename News _ _ _ _ => N8)
    exact hret _ _ D ys _ hy₂ (by assumption) z4 z3 F8 N8
  · exact fun hp tk h => h
theorem law_9 {Q : Flow → Shared → Prop} {news : List (Addr × Obj)} (B : Below A₀ base outer h₀) (X : (hd.heap_39 w.params).In h₀) (T : Top TP TL mean mg mb h₀) (hroom : dp + 40 < recursionLimit)
    (F : Fr h₀ L s.heap (lawM sc dr wo te re pl to tu du)) (N : News h₀ L s.heap news)
    (hret : ∀ h' tk' D ys, IntsAre ys [0, 4, 6, 2, 3, 7, 5, 1] → Fr h₀ L h' (lawM sc dr wo te re (some (.ref D)) to tu du) → News h₀ L h' ((D, lst ys) :: news) → (∀ p ∈ news, p.1 < D) → Q .next { s with heap := h', toks := tk' }) :
    wpS (model PR w) (AA none dp (lawE L fa ccd) outer gd un) (exec (nth (fnB lawS) 8) (lawE L fa ccd)) Q s := by
  have eS : fnS lawS = fnS lawS := rfl
  conv at eS => { rhs; whnf }
  have eB : nth (fnB lawS) 8 = nth (fnB lawS) 8 := rfl
  conv at eB => { rhs; whnf }
  dsimp only [lawE]
  rw [eS, eB]
  clear eS eB
  refine Assign_CallS rfl ?_
  k_steps
  refine callWith_K0S (K := hd.heap_39 w.params) (X.keeps F.keep) (by k_is) ?_
  refine places_S (env := lawE L fa ccd) B F X N T rfl rfl (by omega) ?_
  intro h1 tk1 D ys hy F1 N1 l1
  clear F N
  k_steps
  (with_reducible rename Fr _ _ _ _ => F8)
  (with_reducible rename News _ _ _ _ => N8)
  rw [lawM_pl] at F8
  exact hret _ _ D ys hy F8 N8 l1
end
end Mine

end
section
theorem Mine.resetK10 : True := by
  w_top off
  trivial
open PySem PySem.W PyProof.Rows PySem.Calls PyProof.Rows.LCg
set_option Elab.async false
set_option maxRecDepth 100000
set_option maxHeartbeats 2000000
set_option linter.unusedVariables false
namespace Mine
theorem fillK10 : (PySem.Challenge.rw_wf0014_01, hd.heap_39) = (PySem.Challenge.rw_wf0014_01, hd.heap_39) := by
  k_fill
  rfl
noncomputable abbrev pls : List Int := [0, 4, 6, 2, 3, 7, 5, 1]
noncomputable def Tell (q : List Int) : List Int := pls.map fun p => (iterR 3 q).getD p.toNat 0
/-- the ledger behind the reading: places, the row, the lexer, the cells -/
noncomputable def LX.law (x : LX) (w : World) (u1 : Tok) (n : Int) (jp j : Nat) (Dp : Nat) (pvs : List Value) (Drw : Nat) (wvs : List Value) (L : Nat) (o2 o3 : Obj) (rest : List (Addr × Obj)) : List (Addr × Obj) :=
  (Dp, lst pvs) :: (Drw, lst wvs) :: x.led w u1 n [] jp [] j ((L + 1 + 1, o2) :: (L + 1 + 1 + 1, o3) :: rest)
structure LawOk (x : LX) (L Dp Drw : Nat) (pvs wvs : List Value) (q : List Int) (o2 o3 : Obj) (rest : List (Addr × Obj)) : Prop where
  ok : x.Ok
  pv : IntsAre pvs pls
  rv : IntsAre wvs q
  len : q.length = 8
  byte : ∀ c ∈ q, 0 ≤ c ∧ c < 256
  c2 : o2.data = .cell (some (.ref x.line))
  c3 : o3.data = .cell (some (.ref Drw))
  l2 : L + 1 + 1 + 1 < x.cs
  lr : ∀ p ∈ rest, p.1 ≠ x.pb ∧ p.1 ≠ x.sg ∧ p.1 ≠ x.ld
  lp : x.pb < Dp
  lw : x.pb < Drw
section
variable {w : World} {mean : ExcName → Option Value} {mg mb : Str → Option Value} {A A₀ : Around} {outer : List Env} {base h₀ : Heap} {L fa : Nat} {ccd : Value} {m : Str → Option Value} {s : Shared} {E : Value → Shared → Prop}
  {dp un : Nat} {gd : Option (List Code)} {rest : List (Addr × Obj)} {sc dr wo te re pl to tu du : Option Value} {x : LX} {u1 : Tok} {n : Int} {jp j Dp Drw : Nat} {pvs wvs : List Value} {q : List Int} {o2 o3 : Obj}
theorem law_ne (K : LawOk x L Dp Drw pvs wvs q o2 o3 rest) : ∀ p ∈ (Drw, lst wvs) :: (x.st, instObj 59 x.sd) :: (x.sd, dictOf (streamD w x.e1 x.e2 x.e3 x.e4 x.e5 x.e6 x.e7 x.pb2 x.pc) 5) :: (x.pc, pieceO x.qual x.cs x.doc x.md x.cc x.ct) :: (x.cc, x.occ) :: (x.cs, x.oc) :: (x.sg, listOf (SV []).toArray j) :: (L + 1 + 1, o2) :: (L + 1 + 1 + 1, o3) :: rest, p.1 ≠ x.pb := by
  have C := K.ok.ch
  exact ne_c (Nat.ne_of_gt K.lw) (ne_c (chain_ne C 3 9) (ne_c (chain_ne C 2 9) (ne_c (chain_ne C 6 9) (ne_c (chain_ne C 5 9) (ne_c (chain_ne C 0 9) (ne_c (chain_ne C 1 9)
    (ne_c (Nat.ne_of_lt (Nat.lt_trans (Nat.lt_trans (Nat.lt_succ_self _) K.l2) (chain_lt C 0 9))) (ne_c (Nat.ne_of_lt (Nat.lt_trans K.l2 (chain_lt C 0 9))) fun p hp => (K.lr p hp).1))))))))
theorem tell_L {own : List (Addr × Obj)} {env : Env} {Q : Value → Shared → Prop} {Dq kq : Nat} {qvs : List Value} {q' : List Int} (B : Below A₀ base outer h₀) (F : Fr h₀ L s.heap m) (X : (hd.heap_39 w.params).In h₀) (T : Top TP TL mean mg mb h₀) (hf : env.frame = some L) (hke : env.scope.kind = .function) (hroom : dp + 8 < recursionLimit)
    (K : LawOk x L Dp Drw pvs wvs q o2 o3 rest) (N : News h₀ L s.heap (own ++ x.law w u1 n jp j Dp pvs Drw wvs L o2 o3 rest)) (hown : ∀ p ∈ own, p.1 ≠ x.pb) (hm : (Dq, listOf qvs.toArray kq) ∈ own ++ [(Drw, lst wvs)]) (hq : IntsAre qvs q') (hlen : q'.length = 8)
    (hret : ∀ h' tk' D ys jp', IntsAre ys (Tell q') → Fr h₀ L h' m → News h₀ L h' ((D, lst ys) :: own ++ x.law w u1 n jp' j Dp pvs Drw wvs L o2 o3 rest) → (x.pb < D) → (∀ p ∈ own, p.1 < D) → Q (.ref D) { s with heap := h', toks := tk' }) :
    wpAny (model PR w) (AA none dp env outer gd un) (call (.ref 148) [.ref x.line, .ref Dq, .ref Dp]) Q E s := by
  have C := K.ok.ch
  have hne := law_ne (w := w) (j := j) K
  refine told_L (line := x.line) (ld := x.ld) (pb := x.pb) (st := x.st) (t1 := x.t1) (t2 := x.t2) (t3 := x.t3) (t4 := x.t4) (u1 := u1) (u2 := x.u2) (n := n) (k := 4) (j := jp) (pl := Dp) (jp := pvs.length) (pvs := pvs) (row := Dq) (rvs := qvs) (kr := kq) (ps := pls) (q := q')
    (rest := (Drw, lst wvs) :: (x.st, instObj 59 x.sd) :: (x.sd, dictOf (streamD w x.e1 x.e2 x.e3 x.e4 x.e5 x.e6 x.e7 x.pb2 x.pc) 5) :: (x.pc, pieceO x.qual x.cs x.doc x.md x.cc x.ct) :: (x.cc, x.occ) :: (x.cs, x.oc) :: (x.sg, listOf (SV []).toArray j) :: (L + 1 + 1, o2) :: (L + 1 + 1 + 1, o3) :: (rest ++ own)) B F X T hf hke hroom (news_pick (news_swap N) [2, 3, 4, 0, 1, 5, 6, 7, 8, 9, 10, 11, 12] 13) ?_ hq hlen K.pv (by decide) (by decide) (chain_ne C 9 8) (chain_ne C 9 7) (Nat.ne_of_lt K.lp) ?_ ?_
  · rcases List.mem_append.mp hm with hm | hm
    · exact .tail _ (.tail _ (.tail _ (.tail _ (.tail _ (.tail _ (.tail _ (.tail _ (.tail _ (.tail _ (List.mem_append_right _ hm))))))))))
    · rw [List.mem_singleton.mp hm]; exact .tail _ (.head _)
  · intro p hp
    rcases List.mem_append.mp (show p ∈ ((Drw, lst wvs) :: (x.st, instObj 59 x.sd) :: (x.sd, dictOf (streamD w x.e1 x.e2 x.e3 x.e4 x.e5 x.e6 x.e7 x.pb2 x.pc) 5) :: (x.pc, pieceO x.qual x.cs x.doc x.md x.cc x.ct) :: (x.cc, x.occ) :: (x.cs, x.oc) :: (x.sg, listOf (SV []).toArray j) :: (L + 1 + 1, o2) :: (L + 1 + 1 + 1, o3) :: rest) ++ own from hp) with hp | hp
    · exact hne p hp
    · exact hown p hp
  · intro h' tk' D ys j' hy F' N' l1 l2
    refine hret h' tk' D ys j' hy F' (news_app (news_cons (fun _ h => N' _ (by rw [List.mem_singleton.mp h]; exact .head _)) (news_end N' 14)) (news_pickC N' 14 [4, 5, 1, 2, 3, 6, 7, 8, 9, 10, 11, 12, 13])) l1.2.2.1 (fun p hp => l2 p (.tail _ (.tail _ (.tail _ (.tail _ (.tail _ (.tail _ (.tail _ (.tail _ (.tail _ (List.mem_append_right _ hp))))))))))) 
theorem tell_B {own : List (Addr × Obj)} {env : Env} {Q : Value → Shared → Prop} {bs : Array UInt8} {tb : Tok} {q' : List Int} (B : Below A₀ base outer h₀) (F : Fr h₀ L s.heap m) (X : (hd.heap_39 w.params).In h₀) (T : Top TP TL mean mg mb h₀) (hf : env.frame = some L) (hke : env.scope.kind = .function) (hroom : dp + 8 < recursionLimit)
    (K : LawOk x L Dp Drw pvs wvs q o2 o3 rest) (N : News h₀ L s.heap (own ++ x.law w u1 n jp j Dp pvs Drw wvs L o2 o3 rest)) (hown : ∀ p ∈ own, p.1 ≠ x.pb) (hq : KBw.bInts bs = q') (hlen : q'.length = 8)
    (hret : ∀ h' tk' D ys jp', IntsAre ys (Tell q') → Fr h₀ L h' m → News h₀ L h' ((D, lst ys) :: own ++ x.law w u1 n jp' j Dp pvs Drw wvs L o2 o3 rest) → (x.pb < D) → (∀ p ∈ own, p.1 < D) → Q (.ref D) { s with heap := h', toks := tk' }) :
    wpAny (model PR w) (AA none dp env outer gd un) (call (.ref 148) [.ref x.line, .bytes bs tb, .ref Dp]) Q E s := by
  have C := K.ok.ch
  have hne := law_ne (w := w) (j := j) K
  refine told_B (line := x.line) (ld := x.ld) (pb := x.pb) (st := x.st) (t1 := x.t1) (t2 := x.t2) (t3 := x.t3) (t4 := x.t4) (u1 := u1) (u2 := x.u2) (n := n) (k := 4) (j := jp) (pl := Dp) (jp := pvs.length) (pvs := pvs) (bs := bs) (ps := pls) (q := q')
    (rest := (Drw, lst wvs) :: (x.st, instObj 59 x.sd) :: (x.sd, dictOf (streamD w x.e1 x.e2 x.e3 x.e4 x.e5 x.e6 x.e7 x.pb2 x.pc) 5) :: (x.pc, pieceO x.qual x.cs x.doc x.md x.cc x.ct) :: (x.cc, x.occ) :: (x.cs, x.oc) :: (x.sg, listOf (SV []).toArray j) :: (L + 1 + 1, o2) :: (L + 1 + 1 + 1, o3) :: (rest ++ own)) B F X T hf hke hroom (news_pick (news_swap N) [2, 3, 4, 0, 1, 5, 6, 7, 8, 9, 10, 11, 12] 13) hq hlen K.pv (by decide) (by decide) (chain_ne C 9 8) (chain_ne C 9 7) (Nat.ne_of_lt K.lp) ?_ ?_
  · intro p hp
    rcases List.mem_append.mp (show p ∈ ((Drw, lst wvs) :: (x.st, instObj 59 x.sd) :: (x.sd, dictOf (streamD w x.e1 x.e2 x.e3 x.e4 x.e5 x.e6 x.e7 x.pb2 x.pc) 5) :: (x.pc, pieceO x.qual x.cs x.doc x.md x.cc x.ct) :: (x.cc, x.occ) :: (x.cs, x.oc) :: (x.sg, listOf (SV []).toArray j) :: (L + 1 + 1, o2) :: (L + 1 + 1 + 1, o3) :: rest) ++ own from hp) with hp | hp
    · exact hne p hp
    · exact hown p hp
  · intro h' tk' D ys j' hy F' N' l1 l2
    refine hret h' tk' D ys j' hy F' (news_app (news_cons (fun _ h => N' _ (by rw [List.mem_singleton.mp h]; exact .head _)) (news_end N' 14)) (news_pickC N' 14 [4, 5, 1, 2, 3, 6, 7, 8, 9, 10, 11, 12, 13])) l1.2.2.1 (fun p hp => l2 p (.tail _ (.tail _ (.tail _ (.tail _ (.tail _ (.tail _ (.tail _ (.tail _ (.tail _ (List.mem_append_right _ hp))))))))))) 
end
end Mine

end
section
theorem Mine.resetK11 : True := by
  w_top off
  trivial
open PySem PySem.W PyProof.Rows PySem.Calls PyProof.Rows.LCg
set_option Elab.async false
set_option maxRecDepth 100000
set_option maxHeartbeats 2000000
set_option linter.unusedVariables false
namespace Mine
theorem fillK11 : (PySem.Challenge.rw_wf0014_01, hd.heap_39) = (PySem.Challenge.rw_wf0014_01, hd.heap_39) := by
  k_fill
  rfl
section
variable {w : World} {mean : ExcName → Option Value} {mg mb : Str → Option Value} {A A₀ : Around} {outer : List Env} {base h₀ : Heap} {L fa : Nat} {ccd : Value} {m : Str → Option Value} {s : Shared} {Q : Flow → Shared → Prop} {E : Value → Shared → Prop}
  {dp un : Nat} {gd : Option (List Code)} {rest : List (Addr × Obj)} {sc dr wo te re pl to tu du : Option Value} {x : LX} {u1 : Tok} {n : Int} {jp j Dp Drw : Nat} {pvs wvs : List Value} {q : List Int} {o2 o3 : Obj}
theorem law_10 (B : Below A₀ base outer h₀) (X : (hd.heap_39 w.params).In h₀) (T : Top TP TL mean mg mb h₀) (hroom : dp + 40 < recursionLimit)
    (F : Fr h₀ L s.heap (lawM sc dr wo te re (some (.ref Dp)) to tu du)) (K : LawOk x L Dp Drw pvs wvs q o2 o3 rest) (N : News h₀ L s.heap (x.law w u1 n jp j Dp pvs Drw wvs L o2 o3 rest))
    (hret : ∀ h' tk' D ys jp', IntsAre ys (Tell q) → Fr h₀ L h' (lawM sc dr wo te re (some (.ref Dp)) (some (.ref D)) tu du) → News h₀ L h' ((D, lst ys) :: x.law w u1 n jp' j Dp pvs Drw wvs L o2 o3 rest) → (x.pb < D) → Q .next { s with heap := h', toks := tk' }) :
    wpAny (model PR w) (AA none dp (lawE L fa ccd) outer gd un) (exec (nth (fnB lawS) 9) (lawE L fa ccd)) Q E s := by
  have eS : fnS lawS = fnS lawS := rfl
  conv at eS => { rhs; whnf }
  have eB : nth (fnB lawS) 9 = nth (fnB lawS) 9 := rfl
  conv at eB => { rhs; whnf }
  dsimp only [lawE]
  rw [eS, eB]
  clear eS eB
  have c2 := K.c2
  have c3 := K.c3
  dsimp only [LX.law, LX.led] at N
  k_steps
  refine Stop.mk ?_
  show wpAny _ _ (call (Value.ref 148) [Value.ref x.line, Value.ref Drw, Value.ref Dp]) _ _ _
  refine tell_L (env := lawE L fa ccd) (own := []) (Dq := Drw) (qvs := wvs) (kq := wvs.length) (q' := q) (u1 := u1) (n := n) (jp := jp) (j := j) B F X T rfl rfl (by omega) K N (fun p hp => nomatch hp) (.head _) K.rv K.len ?_
  intro h1 tk1 D ys jp1 hy F1 N1 l1 _
  clear F N
  k_steps
  (with_reducible rename Fr _ _ _ _ => F8)
  (with_reducible rename News _ _ _ _ => N8)
  rw [lawM_to] at F8
  exact hret _ _ D ys jp1 hy F8 N8 l1
theorem law_12 {Dt : Nat} {tvs : List Value} {tq : List Int} (B : Below A₀ base outer h₀) (X : (hd.heap_39 w.params).In h₀) (T : Top TP TL mean mg mb h₀) (hroom : dp + 40 < recursionLimit) (hun : un + 64 < cLine)
    (F : Fr h₀ L s.heap (lawM sc dr wo te re (some (.ref Dp)) (some (.ref Dt)) tu du)) (K : LawOk x L Dp Drw pvs wvs q o2 o3 rest) (N : News h₀ L s.heap ((Dt, lst tvs) :: x.law w u1 n jp j Dp pvs Drw wvs L o2 o3 rest)) (ht : IntsAre tvs tq) (htl : tq.length = 8) (lt : x.pb < Dt)
    (heq : Tell tq = q.map fun c => 8 * c)
    (hret : ∀ h' tk' jp', Fr h₀ L h' (lawM sc dr wo te re (some (.ref Dp)) (some (.ref Dt)) tu du) → News h₀ L h' ((Dt, lst tvs) :: x.law w u1 n jp' j Dp pvs Drw wvs L o2 o3 rest) → Q .next { s with heap := h', toks := tk' }) :
    wpAny (model PR w) (AA none dp (lawE L fa ccd) outer gd un) (exec (nth (fnB lawS) 11) (lawE L fa ccd)) Q E s := by
  have eS : fnS lawS = fnS lawS := rfl
  conv at eS => { rhs; whnf }
  have eB : nth (fnB lawS) 11 = nth (fnB lawS) 11 := rfl
  conv at eB => { rhs; whnf }
  dsimp only [lawE]
  rw [eS, eB]
  clear eS eB
  have c2 := K.c2
  have c3 := K.c3
  dsimp only [LX.law, LX.led] at N
  k_steps
  refine Stop.mk ?_
  show wpAny _ _ (call (Value.ref 148) [Value.ref x.line, Value.ref Dt, Value.ref Dp]) _ _ _
  refine tell_L (env := lawE L fa ccd) (own := [(Dt, lst tvs)]) (Dq := Dt) (qvs := tvs) (kq := tvs.length) (q' := tq) (u1 := u1) (n := n) (jp := jp) (j := j) B F X T rfl rfl (by omega) K N (fun p hp => by rw [List.mem_singleton.mp hp]; exact Nat.ne_of_gt lt) (.head _) ht htl ?_
  intro h1 tk1 D ys jp1 hy F1 N1 l1 _
  clear F N
  dsimp only [LX.law, LX.led, List.cons_append, List.nil_append] at N1
  k_steps
  refine Stop.mk ?_
  refine ListComp_F (L := L) (m := lawM sc dr wo te re (some (.ref Dp)) (some (.ref Dt)) tu du) (h₀ := h₀) rfl (by decide) rfl (by decide) ?_
  k_steps
  unfold SrcF
  (with_reducible rename Fr _ _ _ _ => F2)
  (with_reducible rename News _ _ _ _ => N2)
  have hmw : (Drw, lst wvs) ∈ (D, lst ys) :: (Dt, lst tvs) :: x.law w u1 n jp1 j Dp pvs Drw wvs L o2 o3 rest := .tail _ (.tail _ (.tail _ (.head _)))
  have N3 : News h₀ L _ ((D, lst ys) :: (Dt, lst tvs) :: x.law w u1 n jp1 j Dp pvs Drw wvs L o2 o3 rest) := N2
  have lD : L ≠ Drw := fun e => (N3 _ hmw).2.1 e.symm
  have hql := K.len
  refine it_list rfl (show Heap.IsList _ Drw wvs.toArray from ⟨_, N3.get hmw, rfl, _, rfl⟩) F2 N3 fun it s₂ H => ?_
  rw [K.rv.length] at H
  refine src_It F2 N3 (H _ _) (fun C => ⟨rfl, rfl⟩) (fun e => lD (List.mem_singleton.mp e)) (by rw [sizeLine_eq]; omega)
    (fun i ys' news => ys'.length = i ∧ IntsAre ys' ((q.take i).map fun c => 8 * c) ∧ news = (D, lst ys) :: (Dt, lst tvs) :: x.law w u1 n jp1 j Dp pvs Drw wvs L o2 o3 rest) ?_ ?_ ?_ ?_ ?_ ?_
  · rintro i ys news ⟨_, _, rfl⟩; rfl
  · rintro i ys news ⟨e, _⟩; exact e
  · exact ⟨rfl, IntsAre.nil, rfl⟩
  · rintro i C oC D' m₁ m₂ ys₁ news₁ own h tk E' hi ⟨v, hv, rfl⟩ hoC ⟨hl₁, hy₁, rfl⟩ ho hnl hol Fa Na
    obtain ⟨p, tp, hp, rfl⟩ := ints_at K.rv hv
    have hpb := K.byte p (List.mem_of_getElem? hp)
    clear F2 N2 N3 H hret ho hnl hol
    generalize hnw : (D, lst ys) :: (Dt, lst tvs) :: x.law w u1 n jp1 j Dp pvs Drw wvs L o2 o3 rest = nw at *
    have hm2 : up1 (Str.ofString "number") (Value.int p tp) m₁ (Str.ofString "number") = some (Value.int p tp) := rfl
    k_steps
    refine EltPost.mk nw (by assumption) (by assumption) ⟨?_, ?_, rfl⟩
    · rw [List.length_append, List.length_singleton, hl₁]
    · rw [List.take_add_one, hp, Option.toList_some, List.map_append]
      exact ints_snoc hy₁
  · rintro D₂ h₂ tk₂ ys₂ news ⟨hl₂, hy₂, rfl⟩ F₂ N₂ hD
    rw [List.take_length] at hy₂
    clear F2 N2 N3 H
    have hya : IntsAre ys (q.map fun c => 8 * c) := heq ▸ hy
    k_steps
    refine Stop.mk ?_
    refine ke_ne_ints (xs := ys) (ys := ys₂) ⟨_, N₂.get (.tail _ (.head _)), rfl, _, rfl⟩ ⟨_, N₂.get (.head _), rfl, _, rfl⟩ hya hy₂ (by exact hun) ?_
    rw [decide_eq_true rfl, Bool.not_true]
    k_steps
    exact hret _ _ jp1 F₂ (fun p hp => N₂ p (.tail _ (.tail _ hp)))
  · exact fun hp tk h => h
end
end Mine

end
section
theorem Mine.resetK12 : True := by
  w_top off
  trivial
open PySem PySem.W PyProof.Rows PySem.Calls PyProof.Rows.LCg
set_option Elab.async false
set_option maxRecDepth 100000
set_option maxHeartbeats 2000000
set_option linter.unusedVariables false
namespace Mine
theorem fillK12 : (PySem.Challenge.rw_wf0014_01, hd.heap_39) = (PySem.Challenge.rw_wf0014_01, hd.heap_39) := by
  k_fill
  rfl
noncomputable def dot (r q : List Int) : Int := (List.zipWith (fun a b => a * b) r q).sum
theorem grow3 : ∀ r ∈ growN 3, r.length = 8 ∧ ∀ c ∈ r, c = 1 ∨ c = -1 := by decide +kernel
theorem grow3_len : (growN 3).length = 8 := by decide +kernel
section
variable {w : World} {mean : ExcName → Option Value} {mg mb : Str → Option Value} {A A₀ : Around} {outer : List Env} {base h₀ : Heap} {L fa : Nat} {ccd : Value} {m : Str → Option Value} {s : Shared} {Q : Flow → Shared → Prop} {E : Value → Shared → Prop}
  {dp un : Nat} {gd : Option (List Code)} {rest : List (Addr × Obj)} {sc dr wo te re pl to tu du : Option Value} {x : LX} {u1 : Tok} {n : Int} {jp j Dp Drw : Nat} {pvs wvs : List Value} {q : List Int} {o2 o3 : Obj}
local macro_rules | `(tactic| walk_at "call type:zip") => `(tactic| refine Stop.go ?_)
local macro_rules | `(tactic| walk_at "call builtin:sum") => `(tactic| refine Stop.go ?_)
local macro_rules | `(tactic| walk_at "binaryOp Mult int int") => `(tactic| (with_reducible refine PyProof.Rows.mul_int ?_ (by assumption)))
theorem law_11 {Dt : Nat} {tvs : List Value} (B : Below A₀ base outer h₀) (X : (hd.heap_39 w.params).In h₀) (T : Top TP TL mean mg mb h₀) (hroom : dp + 40 < recursionLimit) (hun : un + 64 < cLine)
    (F : Fr h₀ L s.heap (lawM sc dr wo te re (some (.ref Dp)) (some (.ref Dt)) tu du)) (K : LawOk x L Dp Drw pvs wvs q o2 o3 rest) (N : News h₀ L s.heap ((Dt, lst tvs) :: x.law w u1 n jp j Dp pvs Drw wvs L o2 o3 rest)) (ht : IntsAre tvs (Tell q))
    (heq : Tell q = (growN 3).map fun r => dot r q)
    (hret : ∀ h' tk', Fr h₀ L h' (lawM sc dr wo te re (some (.ref Dp)) (some (.ref Dt)) tu du) → News h₀ L h' ((Dt, lst tvs) :: x.law w u1 n jp j Dp pvs Drw wvs L o2 o3 rest) → Q .next { s with heap := h', toks := tk' }) :
    wpAny (model PR w) (AA none dp (lawE L fa ccd) outer gd un) (exec (nth (fnB lawS) 10) (lawE L fa ccd)) Q E s := by
  have eS : fnS lawS = fnS lawS := rfl
  conv at eS => { rhs; whnf }
  have eB : nth (fnB lawS) 10 = nth (fnB lawS) 10 := rfl
  conv at eB => { rhs; whnf }
  dsimp only [lawE]
  rw [eS, eB]
  clear eS eB
  have c2 := K.c2
  have c3 := K.c3
  generalize hnw : (Dt, lst tvs) :: x.law w u1 n jp j Dp pvs Drw wvs L o2 o3 rest = nw at N hret
  k_steps
  refine Stop.mk ?_
  refine ListComp_F (L := L) (m := lawM sc dr wo te re (some (.ref Dp)) (some (.ref Dt)) tu du) (h₀ := h₀) rfl (by decide) rfl (by decide) ?_
  k_steps
  refine Stop.mk ?_
  refine rows_C (env := lawE L fa ccd) B F X N T rfl rfl (by omega) ?_
  intro h1 tk1 R es jr hes F1 N1
  unfold SrcF
  have lR : L ≠ R := fun e => (N1 _ (.head _)).2.1 e.symm
  refine it_list rfl (show Heap.IsList _ R (refsE es).toArray from ⟨_, N1.get (.head _), rfl, _, rfl⟩) F1 N1 fun it s₂ H => ?_
  rw [show (refsE es).length = 8 by rw [refsE, List.length_map, hes.len, grow3_len]] at H
  have hql := K.len
  refine src_It F1 N1 (H _ _) (fun C => ⟨rfl, rfl⟩) (fun e => lR (List.mem_singleton.mp e)) (by rw [sizeLine_eq]; omega)
    (fun i ys' news => ys'.length = i ∧ IntsAre ys' (((growN 3).take i).map fun r => dot r q) ∧ news = (R, listOf (refsE es).toArray jr) :: (RowsL es ++ nw)) ?_ ?_ ?_ ?_ ?_ ?_
  · rintro i ys news ⟨_, _, rfl⟩; rfl
  · rintro i ys news ⟨e, _⟩; exact e
  · exact ⟨rfl, IntsAre.nil, rfl⟩
  · rintro i C oC D' m₁ m₂ ys₁ news₁ own h tk E' hi ⟨v, hv, rfl⟩ hoC ⟨hl₁, hy₁, rfl⟩ ho hnl hol Fa Na
    have hi' : i < es.length := by rw [hes.len, grow3_len]; exact hi
    obtain ⟨e, he⟩ : ∃ e, es[i]? = some e := ⟨es[i], List.getElem?_eq_getElem hi'⟩
    obtain rfl : v = .ref e.1 := by
      rw [show refsE es = es.map fun e => Value.ref e.1 from rfl, List.getElem?_map, he] at hv
      exact (Option.some.inj hv).symm
    obtain ⟨r, hri, hIr⟩ := hes.at he
    have hr8 := grow3 r (List.mem_of_getElem? hri)
    have hmw : (Drw, lst wvs) ∈ nw := by rw [← hnw]; exact .tail _ (.tail _ (.head _))
    have hm3 : (L + 1 + 1 + 1, o3) ∈ nw := by
      rw [← hnw]
      unfold LX.law LX.led
      exact .tail _ (.tail _ (.tail _ (.tail _ (.tail _ (.tail _ (.tail _ (.tail _ (.tail _ (.tail _ (.tail _ (.tail _ (.tail _ (.head _)))))))))))))
    have hme := mem_rows he
    have N5 : News h₀ L h ((C, oC) :: (D', lst ys₁) :: (L + 1 + 1 + 1, o3) :: (Drw, lst wvs) :: (e.1, listOf e.2.1.toArray e.2.2) :: ((R, listOf (refsE es).toArray jr) :: (RowsL es ++ nw) ++ own)) := news_perm Na (by
      intro p hp
      simp only [List.mem_cons, List.mem_append] at hp ⊢
      rcases hp with h | h | rfl | rfl | rfl | h
      · exact .inl h
      · exact .inr (.inl h)
      · exact .inr (.inr (.inl (.inr (.inr hm3))))
      · exact .inr (.inr (.inl (.inr (.inr hmw))))
      · exact .inr (.inr (.inl (.inr (.inl hme))))
      · exact .inr (.inr h))
    have hback : ∀ {h' : Heap}, News h₀ L h' ((C, oC) :: (D', lst ys₁) :: (L + 1 + 1 + 1, o3) :: (Drw, lst wvs) :: (e.1, listOf e.2.1.toArray e.2.2) :: ((R, listOf (refsE es).toArray jr) :: (RowsL es ++ nw) ++ own)) → News h₀ L h' ((C, oC) :: (D', lst ys₁) :: ((R, listOf (refsE es).toArray jr) :: (RowsL es ++ nw) ++ own)) := fun N6 => news_perm N6 (by
      intro p hp
      simp only [List.mem_cons] at hp ⊢
      rcases hp with h | h | h
      · exact .inl h
      · exact .inr (.inl h)
      · exact .inr (.inr (.inr (.inr (.inr h)))))
    clear F N F1 N1 Na H hret ho hnl hol
    generalize hrr : ((R, listOf (refsE es).toArray jr) :: (RowsL es ++ nw) ++ own) = rr at *
    have hm2 : up1 (Str.ofString "signs") (Value.ref e.1) m₁ (Str.ofString "signs") = some (Value.ref e.1) := rfl
    k_steps
    refine Stop.mk ?_
    refine ListComp_F (L := L) (m := lawM sc dr wo te re (some (.ref Dp)) (some (.ref Dt)) tu du) (h₀ := h₀) rfl (by decide) rfl (by decide) ?_
    k_steps
    refine Stop.mk ?_
    unfold SrcF
    generalize hnn : (C, oC) :: (D', lst ys₁) :: (L + 1 + 1 + 1, o3) :: (Drw, lst wvs) :: (e.1, listOf e.2.1.toArray e.2.2) :: rr = nn at *
    have hz1 : (e.1, listOf e.2.1.toArray e.2.2) ∈ nn := by rw [← hnn]; exact .tail _ (.tail _ (.tail _ (.tail _ (.head _))))
    have hz2 : (Drw, lst wvs) ∈ nn := by rw [← hnn]; exact .tail _ (.tail _ (.tail _ (.head _)))
    have lz1 : L ≠ e.1 := fun q => (N5 _ hz1).2.1 q.symm
    have lz2 : L ≠ Drw := fun q => (N5 _ hz2).2.1 q.symm
    (with_reducible rename Fr _ _ _ _ => F6)
    refine it_zip rfl (N5.isList hz1) (show Heap.IsList _ Drw wvs.toArray from ⟨_, N5.get hz2, rfl, _, rfl⟩) F6 N5 fun it2 s₃ H2 => ?_
    rw [List.size_toArray, List.size_toArray, hIr.length, K.rv.length, hr8.1, hql] at H2
    refine src_It F6 N5 (H2 _ _ _ _ _ _) (fun C => ⟨rfl, rfl, rfl⟩) (fun q => by rcases List.mem_cons.mp q with h | h; exact lz1 h; exact lz2 (List.mem_singleton.mp h)) (by rw [sizeLine_eq]; decide)
      (fun i ys' news => ys'.length = i ∧ IntsAre ys' ((List.zipWith (fun a b => a * b) r q).take i) ∧ news = nn) ?_ ?_ ?_ ?_ ?_ ?_
    · rintro i ys news ⟨_, _, rfl⟩; rfl
    · rintro i ys news ⟨e, _⟩; exact e
    · exact ⟨rfl, IntsAre.nil, rfl⟩
    · rintro i2 C2 oC2 D2 m₃ m₄ ys₂ news₂ own2 hh tk2 E2 hi2 ⟨v, v', ⟨hv1, hv2⟩, rfl⟩ hoC2 ⟨hl₂, hy₂, rfl⟩ ho2 hnl2 hol2 Fb Nb
      rw [List.getElem?_toArray] at hv1 hv2
      obtain ⟨a, ta, ha, rfl⟩ := ints_at hIr hv1
      obtain ⟨b, tb, hb, rfl⟩ := ints_at K.rv hv2
      have hab : IntMulOk a b := by
        rcases hr8.2 a (List.mem_of_getElem? ha) with h | h
        · rw [h]; exact IntMulOk.of_left (by decide)
        · rw [h]; exact IntMulOk.of_left (by decide)
      clear F6 N5 H2 ho2 hnl2 hol2 hback
      have hm3 : up1 (Str.ofString "number") (Value.int b tb) (up1 (Str.ofString "sign") (Value.int a ta) m₃) (Str.ofString "number") = some (Value.int b tb) := rfl
      have hm4 : up1 (Str.ofString "number") (Value.int b tb) (up1 (Str.ofString "sign") (Value.int a ta) m₃) (Str.ofString "sign") = some (Value.int a ta) := rfl
      k_steps
      refine EltPost.mk news₂ (by assumption) (by assumption) ⟨?_, ?_, rfl⟩
      · rw [List.length_append, List.length_singleton, hl₂]
      · rw [List.take_add_one, show (List.zipWith (fun a b => a * b) r q)[i2]? = some (a * b) by rw [List.getElem?_zipWith, ha, hb]]
        exact ints_snoc hy₂
    · rintro D₃ h₃ tk₃ ys₃ news ⟨hl₃, hy₃, rfl⟩ F₃ N₃ hD
      rw [List.take_of_length_le (by rw [List.length_zipWith, hr8.1, hql]; decide)] at hy₃
      clear F6 N5 H2
      k_steps
      refine Stop.mk ?_
      (with_reducible rename Fr _ _ _ _ => F7)
      (with_reducible rename News _ _ _ _ => N7)
      refine LSm.sum_ints F7 N7 rfl (vs := ys₃) ⟨_, N7.get (.head _), rfl, _, rfl⟩ hy₃ ?_
      intro h8 tk8 t8 F8 N8
      refine EltPost.mk ((R, listOf (refsE es).toArray jr) :: (RowsL es ++ nw)) F8 ?_ ⟨?_, ?_, rfl⟩
      · rw [hrr]
        exact hback (fun p hp => N8 p (.tail _ hp))
      · rw [List.length_append, List.length_singleton, hl₁]
      · rw [List.take_add_one, hri, Option.toList_some, List.map_append]
        exact ints_snoc hy₁
    · exact fun hp tk h => h
  · rintro D₂ h₂ tk₂ ys₂ news ⟨hl₂, hy₂, rfl⟩ F₂ N₂ hD
    rw [List.take_of_length_le (by rw [grow3_len]; exact Nat.le_refl _), ← heq] at hy₂
    have hmt : (Dt, lst tvs) ∈ nw := by rw [← hnw]; exact .head _
    clear F N F1 N1 H
    k_steps
    refine Stop.mk ?_
    refine ke_ne_ints (xs := tvs) (ys := ys₂) ⟨_, N₂.get (.tail _ (.tail _ (List.mem_append_right _ hmt))), rfl, _, rfl⟩ ⟨_, N₂.get (.head _), rfl, _, rfl⟩ ht hy₂ (by exact hun) ?_
    rw [decide_eq_true rfl, Bool.not_true]
    k_steps
    exact hret _ _ F₂ (fun p hp => N₂ p (.tail _ (.tail _ (List.mem_append_right _ hp))))
  · exact fun hp tk h => h
end
end Mine

end
section
theorem Mine.resetS4 : True := by
  w_top off
  trivial
open PySem PySem.W PyProof.Rows PySem.Calls
open Sem (wp)
set_option Elab.async false
set_option maxRecDepth 100000
set_option maxHeartbeats 2000000
set_option linter.unusedVariables false
namespace Mine
section
variable {M : Model} {A : Around} {s : Shared} {env : Env}
theorem wpS_runOwn {c : Code} {h : Option Value} {Q : Flow → Shared → Prop} (hc : codeS M (A.mark h) c Q s) (hnb : h ≠ some byPass := by intro x; cases x) : wpS M A (runOwn c env h) Q s := by
  unfold runOwn
  exact wpS_onRaise (wpS_run hc hnb)
theorem codeS_loop' {c : Code} {Q : Flow → Shared → Prop} (hcl : Cl c) (hq : c.quiet = true) (I : Nat → Shared → Prop)
    (turn : ∀ n s, I n s → wpS M (A.under c) (M.den c)
      (fun fin s' => match fin with
        | .done f => Q f s'
        | .again c' => (c' = c ∧ ∃ m, m < n ∧ I m s') ∨ (c'.quiet = true ∧ codeS M A c' Q s')) s)
    (n : Nat) (h : I n s) : codeS M A c Q s := by
  induction n using Nat.strongRecOn generalizing s with
  | ind n ih =>
    refine codeS_of_tree hcl (wpS_mono (turn n s h) (fun fin s' hf => ?_))
    cases fin with
    | done f => exact hf
    | again c' =>
      rcases hf with ⟨rfl, m, hm, hI⟩ | hf
      · exact ⟨hq, ih m hm hI⟩
      · exact hf
end
section
variable {prog : Program} {w : World} {A : Around} {s : Shared} {env : Env}
theorem codeS_block {stmts : List Stmt} {Q : Flow → Shared → Prop} (h : wpS (model prog w) A (execs stmts env) Q s) : codeS (model prog w) A (.block stmts env) Q s := by
  refine codeS_of_tree trivial ?_
  show wpS _ _ (do return Fin.done (← (execs stmts env).onRaise (fun x => do noteFrame x env; theTreesLotGoes x))) _ s
  exact wpS_bind (wpS_onRaise (wpS_mono h fun f s' h' => wpS_pure h'))
theorem codeS_forLoop {Q : Flow → Shared → Prop} {target : Expr} {it : Value} {body : List Stmt} (I : Nat → Shared → Prop)
    (turn : ∀ n s, I n s → wpAny (model prog w) A (pyNext it) (fun r s₁ => match r with
      | none => Q .next s₁
      | some v => wpAny (model prog w) A (letOwnedTupleGo target it v) (fun _ s₁' =>
          wpAny (model prog w) A (assign target env v) (fun _ s₂ => wpS (model prog w) A (execs body env) (fun f s₃ => f = .next ∧ ∃ m, m < n ∧ I m s₃) s₂) (fun _ _ => False) s₁') (fun _ _ => False) s₁) (fun _ _ => False) s)
    (n : Nat) (h : I n s) : codeS (model prog w) A (.forLoop target it body [] env) Q s := by
  refine codeS_loop' trivial rfl I (fun n s hI => ?_) n h
  show wpS _ A ((forTurn target it body [] env).onRaise (fun x => do noteFrame x env; theTreesLotGoes x)) _ s
  refine wpS_onRaise ?_
  simp only [forTurn]
  refine wpS_bind (wpS_standAt (wpS_bind (wpS_onRaise (wpS_any (wpAny_mono (turn n s hI) (fun r s₁ h₁ => ?_) fun _ _ e => e)))))
  cases r with
  | none => exact wpS_pure (.inr ⟨rfl, codeS_block (wpS_any (wpAny_execs_nil h₁))⟩)
  | some v =>
    refine wpS_bind (wpS_any (wpAny_mono h₁ (fun _ s₁' h₁' => ?_) fun _ _ h' => h'))
    refine wpS_bind (wpS_any (wpAny_mono h₁' (fun _ s₂ h₂ => wpS_bind (wpS_mono h₂ (fun f s₃ h₃ => ?_))) fun _ _ h' => h'))
    obtain ⟨rfl, h₃⟩ := h₃
    exact wpS_pure (.inl ⟨rfl, h₃⟩)
theorem wpS_For {target iter : Expr} {body : List Stmt} {pos : Pos} {Q : Flow → Shared → Prop}
    (h : wpAny (model prog w) A (eval iter env) (fun x s₁ => wpAny (model prog w) A (pyIter x) (fun it s₂ => codeS (model prog w) A (.forLoop target it body [] env) Q s₂) (fun _ _ => False) s₁) (fun _ _ => False) s)
    (hs : ∀ x, foldedSetIterable iter env x = pure x := by intro _; rfl) :
    wpS (model prog w) A (exec (.For target iter body [] pos) env) Q s := by
  rw [exec_For]
  exact wpS_bind (wpS_standAt (wpS_bind (wpS_any (wpAny_mono h (fun x s₁ h₁ => wpS_bind (wpS_of_eq (hs x) (wpS_bind (wpS_standAt (wpS_bind (wpS_holding
    (wpS_mono (wpS_any h₁) (fun it s₂ h₂ => wpS_runOwn h₂)))))))) fun _ _ h' => h'))))
end
end Mine

end
section
theorem Mine.resetS5 : True := by
  w_top off
  trivial
open PySem PySem.W PyProof.Rows PySem.Calls PyProof.Rows.LCg
open Sem (wp)
set_option Elab.async false
set_option maxRecDepth 100000
set_option maxHeartbeats 2000000
set_option linter.unusedVariables false
namespace Mine
section
variable {prog : Program} {w : World} {A : Around} {E : Value → Shared → Prop} {s : Shared} {h₀ : Heap} {L : Nat} {m : Str → Option Value} {env : Env} {news : List (Addr × Obj)}
theorem forS_tuple {ax : Nat} {oT : Obj} {vs : List Value} {x : Str} {px : Pos} {body : List Stmt} {Q : Flow → Shared → Prop} (hh : A.handled = none) (ht : s.heap.IsTuple ax vs.toArray) (F : Fr h₀ L s.heap m) (N : News h₀ L s.heap news)
    (J : Nat → (Str → Option Value) → List (Addr × Obj) → Prop) (hJa : ∀ i m news', J i m news' → news'.map (·.1) = news.map (·.1)) (hJt : ∀ i m news', J i m news' → (ax, oT) ∈ news') (h0 : J 0 m news)
    (step : ∀ i v m₁ news₁ h tk (I : Nat) oI, vs[i]? = some v → J i m₁ news₁ → (∀ p ∈ news, p.1 < I) → Fr h₀ L h m₁ → News h₀ L h (news₁ ++ [(I, oI)]) →
      wpAny (model prog w) A (assign (.Name x px) env v) (fun _ s₂ => wpS (model prog w) A (execs body env) (fun f s' => f = .next ∧ ∃ h' tk' m₂ news₂, s' = { s with heap := h', toks := tk' } ∧ Fr h₀ L h' m₂ ∧ News h₀ L h' (news₂ ++ [(I, oI)]) ∧ J (i + 1) m₂ news₂) s₂) (fun _ _ => False) { s with heap := h, toks := tk })
    (hR : ∀ h' tk m' news', Fr h₀ L h' m' → News h₀ L h' news' → J vs.length m' news' → Q .next { s with heap := h', toks := tk }) :
    wpAny (model prog w) A (pyIter (.ref ax)) (fun it s₂ => codeS (model prog w) A (.forLoop (.Name x px) it body [] env) Q s₂) E s := by
  have hax : @LT.lt Nat _ ax s.heap.objs.size := by obtain ⟨_, e, _⟩ := ht; exact Heap.lt_size e
  refine wpAny_pyIter_tuple ht ?_
  have W0 := Walks.tuple (prog := prog) (w := w) hh s.heap.objs.size ax (Nat.ne_of_lt hax) vs.toArray
  have W : Walks prog w A s.heap.objs.size [s.heap.objs.size, ax] [s.heap.objs.size] vs.length (fun i v => vs[i]? = some v) (fun i h => h.IsTupleIter s.heap.objs.size ax i ∧ h.IsTuple ax vs.toArray) := by simpa using W0
  generalize hI : s.heap.objs.size = I at *
  have hnl : ∀ p ∈ news, p.1 < I := fun p hp => hI ▸ Heap.lt_size (N p hp).1
  have hLI : L ≠ I := by have := F.ns.lt; rw [hI] at this; exact Nat.ne_of_lt this
  have hI0 : h₀.get? I = none := fresh_at F I (by rw [hI]; exact Nat.le_refl _)
  have noL : h₀.get? L = none := Heap.get?_none_of_le F.above
  have nI : ∀ {b : Addr}, b ≠ I → b ∉ [I] := fun h hb => h (List.mem_singleton.mp hb)
  have old : ∀ b o, h₀.get? b = some o → b ≠ I := fun b o e hb => by rw [hb, hI0] at e; cases e
  have off : ∀ i m news', J i m news' → ∀ p ∈ news', p.1 ≠ I := fun i m news' hJ p hp => by
    have h1 : p.1 ∈ news.map (·.1) := hJa _ _ _ hJ ▸ List.mem_map_of_mem hp
    obtain ⟨p', hp', e⟩ := List.mem_map.mp h1
    rw [← e]; exact Nat.ne_of_lt (hnl p' hp')
  have st0 : (s.heap.push { cls := .type "tuple_iterator", data := .fields #[.ref ax, .int 0 0] }).IsTupleIter I ax 0 ∧ (s.heap.push { cls := .type "tuple_iterator", data := .fields #[.ref ax, .int 0 0] }).IsTuple ax vs.toArray :=
    ⟨by rw [← hI]; exact ⟨_, Heap.get?_push_size _ rfl, rfl, rfl⟩, ht.at fun o e => Heap.get?_push_of_some _ e⟩
  refine codeS_forLoop
    (fun k s' => ∃ h' tk m' news' i, s' = { s with heap := h', toks := tk } ∧ (h'.IsTupleIter I ax i ∧ h'.IsTuple ax vs.toArray) ∧ Fr h₀ L h' m' ∧ News h₀ L h' news' ∧ J i m' news' ∧ i ≤ vs.length ∧ k = vs.length + 1 - i) ?_ (vs.length + 1)
    ⟨_, s.toks, m, news, 0, rfl, st0, F.push _, fun p hp => ⟨Heap.get?_push_of_some _ (N p hp).1, (N p hp).2⟩, h0, Nat.zero_le _, rfl⟩
  rintro k s' ⟨h', tk, m', news', i, rfl, hst', F', N', hJ, hi, rfl⟩
  by_cases hlt : i < vs.length
  · refine W.item i _ _ _ hlt hst' fun v h₂ tk₂ hv hst₂ hk₂ => ?_
    show wpAny _ _ (pure ()) _ _ _
    refine wpAny_pure ?_
    have F₂ : Fr h₀ L h₂ m' := ⟨F'.ns.at' fun o e => hk₂ _ o (nI hLI) e, fun b o e => hk₂ b o (nI (old b o e)) (F'.keep b o e), F'.above⟩
    obtain ⟨⟨oI, hoI, hoI2⟩, hT2⟩ := hst₂
    have hst₂ : h₂.IsTupleIter I ax (i + 1) ∧ h₂.IsTuple ax vs.toArray := ⟨⟨oI, hoI, hoI2⟩, hT2⟩
    have N₂ : News h₀ L h₂ (news' ++ [(I, oI)]) := fun p hp => by
      rcases List.mem_append.mp hp with hp | hp
      · exact ⟨hk₂ _ _ (nI (off _ _ _ hJ p hp)) (N' p hp).1, (N' p hp).2⟩
      · rw [List.mem_singleton.mp hp]; exact ⟨hoI, hLI.symm, hI0⟩
    refine wpAny_mono (step i v m' news' h₂ tk₂ I oI hv hJ hnl F₂ N₂) (fun _ s₃ h₃ => ?_) fun _ _ e => e
    refine wpS_mono h₃ ?_
    rintro f s₄ ⟨rfl, h₄, tk₄, m₄, news₄, rfl, F₄, N₄, hJ₄⟩
    refine ⟨rfl, vs.length + 1 - (i + 1), by omega, h₄, tk₄, m₄, news₄, i + 1, rfl, ?_, F₄, fun p hp => N₄ p (List.mem_append_left _ hp), hJ₄, hlt, rfl⟩
    refine W.frame _ _ _ hst₂ fun b hb o e => ?_
    rcases List.mem_cons.mp hb with rfl | hb
    · rw [hoI] at e; cases e
      exact (N₄ (b, oI) (List.mem_append_right _ (.head _))).1
    · rw [List.mem_singleton.mp hb] at e ⊢
      have e1 := (N₂ (ax, oT) (List.mem_append_left _ (hJt _ _ _ hJ))).1
      rw [e] at e1; cases e1
      exact (N₄ (ax, _) (List.mem_append_left _ (hJt _ _ _ hJ₄))).1
  · have hin : i = vs.length := by omega
    subst hin
    refine W.done _ _ _ hst' fun h₁ tk₁ hk₁ => ?_
    exact hR h₁ tk₁ m' news' ⟨F'.ns.at' fun o e => hk₁ _ o (nI hLI) e, fun b o e => hk₁ b o (nI (old b o e)) (F'.keep b o e), F'.above⟩ (fun p hp => ⟨hk₁ _ _ (nI (off _ _ _ hJ p hp)) (N' p hp).1, (N' p hp).2⟩) hJ
end
end Mine

end
section
theorem Mine.resetK13 : True := by
  w_top off
  trivial
local macro_rules | `(tactic| walk_at "none") => `(tactic| skip)
open PySem PySem.W PyProof.Rows PySem.Calls PyProof.Rows.LCg
set_option Elab.async false
set_option maxRecDepth 100000
set_option maxHeartbeats 2000000
set_option linter.unusedVariables false
namespace Mine
theorem fillK13 : (PySem.Challenge.rw_wf0014_01, hd.heap_39) = (PySem.Challenge.rw_wf0014_01, hd.heap_39) := by
  k_fill
  rfl
noncomputable def widB : List Stmt := fnB (nth (fnB lawS) 12)
theorem lawM_tu {sc dr wo te re pl to tu du : Option Value} {v : Value} : (fun y => if y = Str.ofString "turned" then some v else lawM sc dr wo te re pl to tu du y) = lawM sc dr wo te re pl to (some v) du := by
  funext y
  by_cases h : y = Str.ofString "turned"
  · subst h; rfl
  · simp only [lawM, if_neg h]
theorem lawM_du {sc dr wo te re pl to tu du : Option Value} {v : Value} : (fun y => if y = Str.ofString "due" then some v else lawM sc dr wo te re pl to tu du y) = lawM sc dr wo te re pl to tu (some v) := by
  funext y
  by_cases h : y = Str.ofString "due"
  · subst h; rfl
  · simp only [lawM, if_neg h]
noncomputable def due1 (wd : Int) (i : Nat) (t : Int) : Int := if Builtin.bitAnd (i : Int) ((8 : Int).fdiv wd) = 0 then t else -t
noncomputable def dueL (wd : Int) (tq : List Int) : Nat → List Int
  | 0 => []
  | i + 1 => dueL wd tq i ++ [due1 wd i (tq.getD i 0)]
section
variable {w : World} {mean : ExcName → Option Value} {mg mb : Str → Option Value} {A A₀ : Around} {outer : List Env} {base h₀ : Heap} {L fa : Nat} {ccd : Value} {m : Str → Option Value} {s : Shared} {Q : Flow → Shared → Prop} {E : Value → Shared → Prop}
  {dp un : Nat} {gd : Option (List Code)} {rest : List (Addr × Obj)} {sc dr wo te re pl to tu du : Option Value}
local macro_rules | `(tactic| walk_at "exec Assign cons ListComp") => `(tactic| refine Stop.go ?_)
local macro_rules | `(tactic| walk_at "call type:enumerate") => `(tactic| refine Stop.go ?_)
local macro_rules | `(tactic| walk_at "call ref") => `(tactic| (k_here; (try dsimp only [List.cons_append, List.nil_append]); k_dflt (first
  | ((with_reducible show wpAny _ _ (call (Value.ref 98) [Value.int _ _]) _ _ _); refine' neg_C ?B ?F ?X ?N ?T ?hA ?hf ?hke ?hr ?_; (case B => k_asm); (case F => k_asm); (case X => k_asm); (case N => k_asm); (case T => k_asm); (case hA => exact rfl); (case hf => exact rfl); (case hke => exact rfl); (case hr => assumption))
  | ((with_reducible show wpAny _ _ (call (Value.ref 77) [Value.int _ _, Value.int _ _]) _ _ _); refine' and_C ?B ?F ?X ?N ?T ?hA ?hf ?hke ?hr ?_; (case B => k_asm); (case F => k_asm); (case X => k_asm); (case N => k_asm); (case T => k_asm); (case hA => exact rfl); (case hf => exact rfl); (case hke => exact rfl); (case hr => assumption))
  | ((with_reducible show wpAny _ _ (call (Value.ref 84) [Value.int _ _, Value.int _ _]) _ _ _); refine' div_C ?B ?F ?X ?N ?T ?hA ?hf ?hke ?hr ?hb ?hb2 ?_; (case B => k_asm); (case F => k_asm); (case X => k_asm); (case N => k_asm); (case T => k_asm); (case hA => exact rfl); (case hf => exact rfl); (case hke => exact rfl); (case hr => assumption); (case hb => assumption); (case hb2 => assumption))); intro h' tk' t' F' N'; (try k_sweep)))
theorem wid_due {Dt : Nat} {tvs : List Value} {tq : List Int} {wd : Int} {tw : Tok} {o4 : Obj} (B : Below A₀ base outer h₀) (X : (hd.heap_39 w.params).In h₀) (T : Top TP TL mean mg mb h₀) (hroom : dp < recursionLimit)
    (F : Fr h₀ L s.heap (lawM sc dr wo te re pl (some (.ref Dt)) tu du)) (N : News h₀ L s.heap ((Dt, lst tvs) :: (L + 1 + 1 + 1 + 1, o4) :: rest)) (e4 : o4.data = .cell (some (.int wd tw))) (ht : IntsAre tvs tq) (htl : tq.length = 8) (hw0 : wd ≠ 0) (hw1 : wd.natAbs.log2 < 9000)
    (hret : ∀ h' tk' D ys, IntsAre ys (dueL wd tq 8) → Fr h₀ L h' (lawM sc dr wo te re pl (some (.ref Dt)) tu (some (.ref D))) → News h₀ L h' ((D, lst ys) :: (Dt, lst tvs) :: (L + 1 + 1 + 1 + 1, o4) :: rest) → Dt < D → (∀ p ∈ rest, p.1 < D) → Q .next { s with heap := h', toks := tk' }) :
    wpAny (model PR w) (AA none dp (lawE L fa ccd) outer gd un) (exec (nth widB 2) (lawE L fa ccd)) Q E s := by
  have eS : fnS lawS = fnS lawS := rfl
  conv at eS => { rhs; whnf }
  have eB : nth widB 2 = nth widB 2 := rfl
  conv at eB => { rhs; whnf }
  dsimp only [lawE]
  rw [eS, eB]
  clear eS eB
  k_steps
  refine Stop.mk ?_
  refine Assign_ListComp_F (L := L) (m := lawM sc dr wo te re pl (some (.ref Dt)) tu du) (h₀ := h₀) rfl rfl rfl (by decide) rfl (by decide) rfl rfl ?_
  k_steps
  refine Stop.mk ?_
  (with_reducible rename Fr _ _ _ _ => F9)
  (with_reducible rename News _ _ _ _ => N9)
  unfold SrcF
  have lD : L ≠ Dt := fun e => (N9 _ (.head _)).2.1 e.symm
  refine it_enum rfl (show Heap.IsList _ Dt tvs.toArray from ⟨_, N9.get (.head _), rfl, _, rfl⟩) F9 N9 fun it s₂ H => ?_
  rw [List.size_toArray, ht.length, htl] at H
  refine src_It F9 N9 (H _ _ _ _ _ _) (fun C => ⟨rfl, rfl, rfl⟩) (fun e => lD (List.mem_singleton.mp e)) (by rw [sizeLine_eq]; decide)
    (fun i ys news => ys.length = i ∧ IntsAre ys (dueL wd tq i) ∧ news = (Dt, lst tvs) :: (L + 1 + 1 + 1 + 1, o4) :: rest) ?_ ?_ ?_ ?_ ?_ ?_
  · rintro i ys news ⟨_, _, rfl⟩; rfl
  · rintro i ys news ⟨e, _⟩; exact e
  · exact ⟨rfl, IntsAre.nil, rfl⟩
  · rintro i C oC D' m₁ m₂ ys news₁ own h tk E' hi ⟨v, v', ⟨⟨tv, rfl⟩, hv'⟩, rfl⟩ hoC ⟨hl₁, hy₁, rfl⟩ ho hnl hol F₁ N₁
    rw [List.getElem?_toArray] at hv'
    obtain ⟨b, tb, hb, rfl⟩ := ints_at ht hv'
    have hbd : tq.getD i 0 = b := by rw [List.getD_eq_getElem?_getD, hb]; rfl
    clear F9 N9 H hret ho hnl hol
    have hm2 : up1 (Str.ofString "number") (Value.int b tb) (up1 (Str.ofString "place") (Value.int (i : Int) tv) m₁) (Str.ofString "number") = some (Value.int b tb) := rfl
    have hm3 : up1 (Str.ofString "number") (Value.int b tb) (up1 (Str.ofString "place") (Value.int (i : Int) tv) m₁) (Str.ofString "place") = some (Value.int (i : Int) tv) := rfl
    k_steps
    · refine EltPost.mk ((Dt, lst tvs) :: (L + 1 + 1 + 1 + 1, o4) :: rest) (by assumption) (by assumption) ⟨?_, ?_, rfl⟩
      · rw [List.length_append, List.length_singleton, hl₁]
      · show IntsAre _ (dueL wd tq i ++ [due1 wd i (tq.getD i 0)])
        rw [hbd, due1, if_neg (by assumption)]
        exact ints_snoc hy₁
    · refine EltPost.mk ((Dt, lst tvs) :: (L + 1 + 1 + 1 + 1, o4) :: rest) (by assumption) (by assumption) ⟨?_, ?_, rfl⟩
      · rw [List.length_append, List.length_singleton, hl₁]
      · show IntsAre _ (dueL wd tq i ++ [due1 wd i (tq.getD i 0)])
        rw [hbd, due1, if_pos (by assumption)]
        exact ints_snoc hy₁
  · rintro D' h₂ tk₂ ys news ⟨hl₂, hy₂, rfl⟩ F₂ N₂ hD
    rw [lawM_du] at F₂
    exact hret _ _ D' ys hy₂ F₂ N₂ (hD _ (.head _)) (fun p hp => hD p (.tail _ (.tail _ hp)))
  · exact fun hp tk h => h
end
end Mine

end
section
theorem Mine.resetK14 : True := by
  w_top off
  trivial
open PySem PySem.W PyProof.Rows PySem.Calls PyProof.Rows.LCg
set_option Elab.async false
set_option maxRecDepth 100000
set_option maxHeartbeats 2000000
set_option linter.unusedVariables false
namespace Mine
theorem fillK14 : (PySem.Challenge.rw_wf0014_01, hd.heap_39) = (PySem.Challenge.rw_wf0014_01, hd.heap_39) := by
  k_fill
  rfl
noncomputable def qbs (q : List Int) : List UInt8 := q.map fun n => n.toNat.toUInt8
noncomputable def wn : List (Nat × Nat) := [(1, 8), (2, 4), (4, 2), (8, 1)]
theorem wn_facts : ∀ p ∈ wn, p.2 * p.1 = 8 ∧ Builtin.Range.small 0 (p.1 : Int) 1 = true ∧ Builtin.Range.rangeSize 0 (p.1 : Int) 1 = (p.1 : Int) ∧ Builtin.Range.small 0 ((8 : Nat) : Int) (p.1 : Int) = true ∧ Builtin.Range.rangeSize 0 ((8 : Nat) : Int) (p.1 : Int) = (p.2 : Int) ∧ 0 < p.1 ∧ p.1 < 1000 ∧ (p.1 : Int) ≠ 0 ∧ (p.1 : Int).natAbs.log2 < 9000 := by decide
section
variable {w : World} {mean : ExcName → Option Value} {mg mb : Str → Option Value} {A A₀ : Around} {outer : List Env} {base h₀ : Heap} {L fa : Nat} {ccd : Value} {m : Str → Option Value} {s : Shared} {Q : Flow → Shared → Prop} {E : Value → Shared → Prop}
  {dp un : Nat} {gd : Option (List Code)} {rest : List (Addr × Obj)} {sc dr wo te re pl to tu du : Option Value} {x : LX} {u1 : Tok} {n : Int} {jp j Dp Drw : Nat} {pvs wvs : List Value} {q : List Int} {o2 o3 : Obj}
local macro_rules | `(tactic| walk_at "call type:bytes") => `(tactic| refine Stop.go ?_)
theorem wid_1 {wd nn : Nat} {tw : Tok} {o4 : Obj} (B : Below A₀ base outer h₀) (X : (hd.heap_39 w.params).In h₀) (T : Top TP TL mean mg mb h₀) (hroom : dp + 40 < recursionLimit)
    (F : Fr h₀ L s.heap (lawM sc dr wo te re pl to tu du)) (N : News h₀ L s.heap ((L + 1 + 1 + 1, o3) :: (L + 1 + 1 + 1 + 1, o4) :: (Drw, lst wvs) :: rest)) (c3 : o3.data = .cell (some (.ref Drw))) (e4 : o4.data = .cell (some (.int (wd : Int) tw))) (hwn : (wd, nn) ∈ wn)
    (hrv : IntsAre wvs q) (hlen : q.length = 8) (hby : ∀ c ∈ q, 0 ≤ c ∧ c < 256)
    (hret : ∀ h' tk' t', Fr h₀ L h' (lawM sc dr wo te re pl to (some (.bytes (swO (qbs q) wd nn).toArray t')) du) → News h₀ L h' ((L + 1 + 1 + 1, o3) :: (L + 1 + 1 + 1 + 1, o4) :: (Drw, lst wvs) :: rest) → Q .next { s with heap := h', toks := tk' }) :
    wpS (model PR w) (AA none dp (lawE L fa ccd) outer gd un) (exec (nth widB 0) (lawE L fa ccd)) Q s := by
  have eS : fnS lawS = fnS lawS := rfl
  conv at eS => { rhs; whnf }
  have eB : nth widB 0 = nth widB 0 := rfl
  conv at eB => { rhs; whnf }
  dsimp only [lawE]
  rw [eS, eB]
  clear eS eB
  refine Assign_CallS rfl ?_
  k_steps
  refine callWith_KS (K := hd.heap_39 w.params) (h₀ := h₀) (by k_is) ?_
  k_steps
  refine Stop.mk ?_
  (with_reducible rename News _ _ _ _ => N4)
  (with_reducible rename Fr _ _ _ _ => F4)
  refine PySem.W.bytes_K F4 N4 ?_ hrv hby (by rw [hrv.length, hlen, sizeLine_eq]; decide) rfl ?_
  · exact ⟨_, N4.get (.tail _ (.tail _ (.head _))), rfl, _, rfl⟩
  intro h5 t5 k5 F5 N5 _
  clear F4 N4
  k_steps
  show wpS _ _ (call (Value.ref 21) [Value.bytes (qbs q).toArray _, Value.int (wd : Int) _]) _ _
  obtain ⟨f1, f2, f3, f4, f5, f6, f7, _, _⟩ := wn_facts _ hwn
  have hql : (qbs q).length = 8 := by rw [qbs, List.length_map, hlen]
  refine bsw_S (env := lawE L fa ccd) (wd := wd) (n := nn) (bs := qbs q) B F5 X N5 T rfl rfl (by omega) (by rw [hql]; exact f1) (by rw [hql]; decide) f2 f3 (by rw [hql]; exact f4) (by rw [hql]; exact f5) f6 f7 ?_
  clear f2 f3 f4 f5
  intro h6 tk6 t6 F6 N6
  clear F5 N5
  k_steps
  (with_reducible rename Fr _ _ _ _ => F8)
  (with_reducible rename News _ _ _ _ => N8)
  rw [lawM_tu] at F8
  exact hret _ _ _ F8 N8
theorem wid_2 {bs : Array UInt8} {tb : Tok} {news : List (Addr × Obj)} (B : Below A₀ base outer h₀) (X : (hd.heap_39 w.params).In h₀) (T : Top TP TL mean mg mb h₀) (hroom : dp + 40 < recursionLimit)
    (F : Fr h₀ L s.heap (lawM sc dr wo te re pl to (some (.bytes bs tb)) du)) (N : News h₀ L s.heap news)
    (hret : ∀ h' tk', Fr h₀ L h' (lawM sc dr wo te re pl to (some (.bytes bs tb)) du) → News h₀ L h' news → Q .next { s with heap := h', toks := tk' }) :
    wpAny (model PR w) (AA none dp (lawE L fa ccd) outer gd un) (exec (nth widB 1) (lawE L fa ccd)) Q E s := by
  have eS : fnS lawS = fnS lawS := rfl
  conv at eS => { rhs; whnf }
  have eB : nth widB 1 = nth widB 1 := rfl
  conv at eB => { rhs; whnf }
  dsimp only [lawE]
  rw [eS, eB]
  clear eS eB
  k_steps
  exact hret _ _ F N
theorem wid_4 {Dt Dd : Nat} {tvs dvs : List Value} {tq : List Int} {bs : Array UInt8} {tb : Tok} (B : Below A₀ base outer h₀) (X : (hd.heap_39 w.params).In h₀) (T : Top TP TL mean mg mb h₀) (hroom : dp + 40 < recursionLimit) (hun : un + 64 < cLine)
    (F : Fr h₀ L s.heap (lawM sc dr wo te re (some (.ref Dp)) (some (.ref Dt)) (some (.bytes bs tb)) (some (.ref Dd)))) (K : LawOk x L Dp Drw pvs wvs q o2 o3 rest) (N : News h₀ L s.heap ((Dd, lst dvs) :: (Dt, lst tvs) :: x.law w u1 n jp j Dp pvs Drw wvs L o2 o3 rest)) (htd : IntsAre dvs tq) (lt : x.pb < Dt) (ld : x.pb < Dd)
    (hbl : (KBw.bInts bs).length = 8) (heq : Tell (KBw.bInts bs) = tq)
    (hret : ∀ h' tk' jp', Fr h₀ L h' (lawM sc dr wo te re (some (.ref Dp)) (some (.ref Dt)) (some (.bytes bs tb)) (some (.ref Dd))) → News h₀ L h' ((Dd, lst dvs) :: (Dt, lst tvs) :: x.law w u1 n jp' j Dp pvs Drw wvs L o2 o3 rest) → Q .next { s with heap := h', toks := tk' }) :
    wpAny (model PR w) (AA none dp (lawE L fa ccd) outer gd un) (exec (nth widB 3) (lawE L fa ccd)) Q E s := by
  have eS : fnS lawS = fnS lawS := rfl
  conv at eS => { rhs; whnf }
  have eB : nth widB 3 = nth widB 3 := rfl
  conv at eB => { rhs; whnf }
  dsimp only [lawE]
  rw [eS, eB]
  clear eS eB
  have c2 := K.c2
  have c3 := K.c3
  dsimp only [LX.law, LX.led] at N
  k_steps
  refine Stop.mk ?_
  show wpAny _ _ (call (Value.ref 148) [Value.ref x.line, Value.bytes bs tb, Value.ref Dp]) _ _ _
  refine tell_B (env := lawE L fa ccd) (own := [(Dd, lst dvs), (Dt, lst tvs)]) (bs := bs) (q' := KBw.bInts bs) (u1 := u1) (n := n) (jp := jp) (j := j) B F X T rfl rfl (by omega) K N (fun p hp => by
    rcases List.mem_cons.mp hp with rfl | hp
    · exact Nat.ne_of_gt ld
    · rw [List.mem_singleton.mp hp]; exact Nat.ne_of_gt lt) rfl hbl ?_
  intro h1 tk1 D ys jp1 hy F1 N1 l1 _
  rw [heq] at hy
  clear F N
  generalize hnw : x.law w u1 n jp1 j Dp pvs Drw wvs L o2 o3 rest = nw at N1
  dsimp only [List.cons_append, List.nil_append] at N1
  k_steps
  refine Stop.mk ?_
  refine ke_ne_ints (xs := ys) (ys := dvs) ⟨_, N1.get (.head _), rfl, _, rfl⟩ ⟨_, N1.get (.tail _ (.head _)), rfl, _, rfl⟩ hy htd (by exact hun) ?_
  rw [decide_eq_true rfl, Bool.not_true]
  k_steps
  subst hnw
  exact hret _ _ jp1 F1 (fun p hp => N1 p (.tail _ hp))
end
end Mine

end
section
theorem Mine.resetK15 : True := by
  w_top off
  trivial
open PySem PySem.W PyProof.Rows PySem.Calls PyProof.Rows.LCg
set_option Elab.async false
set_option maxRecDepth 100000
set_option maxHeartbeats 2000000
set_option linter.unusedVariables false
namespace Mine
theorem fillK15 : (PySem.Challenge.rw_wf0014_01, hd.heap_39) = (PySem.Challenge.rw_wf0014_01, hd.heap_39) := by
  k_fill
  rfl
/-- the same facts, with another last cell -/
theorem LawOk.swap {x : LX} {L Dp Drw : Nat} {pvs wvs : List Value} {q : List Int} {o2 o3 o4 o4' : Obj} {rest : List (Addr × Obj)} (K : LawOk x L Dp Drw pvs wvs q o2 o3 ((L + 1 + 1 + 1 + 1, o4) :: rest)) : LawOk x L Dp Drw pvs wvs q o2 o3 ((L + 1 + 1 + 1 + 1, o4') :: rest) :=
  ⟨K.ok, K.pv, K.rv, K.len, K.byte, K.c2, K.c3, K.l2, fun p hp => by
    rcases List.mem_cons.mp hp with rfl | hp
    · exact K.lr (L + 1 + 1 + 1 + 1, o4) (.head _)
    · exact K.lr p (.tail _ hp), K.lp, K.lw⟩
section
variable {w : World} {mean : ExcName → Option Value} {mg mb : Str → Option Value} {A A₀ : Around} {outer : List Env} {base h₀ : Heap} {L fa : Nat} {ccd : Value} {m : Str → Option Value} {s : Shared} {Q : Flow → Shared → Prop} {E : Value → Shared → Prop}
  {dp un : Nat} {gd : Option (List Code)} {rest : List (Addr × Obj)} {sc dr wo te re pl to tu du : Option Value} {x : LX} {u1 : Tok} {n : Int} {jp j Dp Drw : Nat} {pvs wvs : List Value} {q : List Int} {o2 o3 : Obj}
theorem law_mem3 : (L + 1 + 1 + 1, o3) ∈ x.law w u1 n jp j Dp pvs Drw wvs L o2 o3 rest := by
  unfold LX.law LX.led
  exact .tail _ (.tail _ (.tail _ (.tail _ (.tail _ (.tail _ (.tail _ (.tail _ (.tail _ (.tail _ (.tail _ (.tail _ (.head _))))))))))))
theorem law_memr {p : Addr × Obj} (h : p ∈ rest) : p ∈ x.law w u1 n jp j Dp pvs Drw wvs L o2 o3 rest := by
  unfold LX.law LX.led
  exact .tail _ (.tail _ (.tail _ (.tail _ (.tail _ (.tail _ (.tail _ (.tail _ (.tail _ (.tail _ (.tail _ (.tail _ (.tail _ h))))))))))))
theorem law_memw : (Drw, lst wvs) ∈ x.law w u1 n jp j Dp pvs Drw wvs L o2 o3 rest := .tail _ (.head _)
theorem wid_body {Dt wd nn : Nat} {tvs : List Value} {tq : List Int} {tw : Tok} {o4 : Obj} (B : Below A₀ base outer h₀) (X : (hd.heap_39 w.params).In h₀) (T : Top TP TL mean mg mb h₀) (hroom : dp + 40 < recursionLimit) (hun : un + 64 < cLine)
    (F : Fr h₀ L s.heap (lawM sc dr wo te re (some (.ref Dp)) (some (.ref Dt)) tu du)) (K : LawOk x L Dp Drw pvs wvs q o2 o3 ((L + 1 + 1 + 1 + 1, o4) :: rest)) (N : News h₀ L s.heap ((Dt, lst tvs) :: x.law w u1 n jp j Dp pvs Drw wvs L o2 o3 ((L + 1 + 1 + 1 + 1, o4) :: rest)))
    (e4 : o4.data = .cell (some (.int (wd : Int) tw))) (hwn : (wd, nn) ∈ wn) (ht : IntsAre tvs tq) (htl : tq.length = 8) (lt : x.pb < Dt)
    (heq : Tell (KBw.bInts (swO (qbs q) wd nn).toArray) = dueL (wd : Int) tq 8)
    (hret : ∀ h' tk' jp' tu' du', Fr h₀ L h' (lawM sc dr wo te re (some (.ref Dp)) (some (.ref Dt)) tu' du') → News h₀ L h' ((Dt, lst tvs) :: x.law w u1 n jp' j Dp pvs Drw wvs L o2 o3 ((L + 1 + 1 + 1 + 1, o4) :: rest)) → Q .next { s with heap := h', toks := tk' }) :
    wpS (model PR w) (AA none dp (lawE L fa ccd) outer gd un) (execs widB (lawE L fa ccd)) Q s := by
  have eW : widB = [nth widB 0, nth widB 1, nth widB 2, nth widB 3] := rfl
  rw [eW]
  obtain ⟨_, _, _, _, _, _, _, f8, f9⟩ := wn_facts _ hwn
  refine execs_consS ?_
  refine wid_1 (q := q) (o3 := o3) (o4 := o4) (Drw := Drw) (wvs := wvs) (rest := (Dt, lst tvs) :: x.law w u1 n jp j Dp pvs Drw wvs L o2 o3 ((L + 1 + 1 + 1 + 1, o4) :: rest)) B X T hroom F (news_perm N ?_) K.c3 e4 hwn K.rv K.len K.byte ?_
  · intro p hp
    rcases List.mem_cons.mp hp with rfl | hp
    · exact .tail _ law_mem3
    rcases List.mem_cons.mp hp with rfl | hp
    · exact .tail _ (law_memr (.head _))
    rcases List.mem_cons.mp hp with rfl | hp
    · exact .tail _ law_memw
    · exact hp
  intro h1 tk1 t1 F1 N1
  dsimp only
  refine execs_consS (wpS_any ?_)
  refine wid_2 B X T hroom F1 N1 ?_
  intro h2 tk2 F2 N2
  dsimp only
  refine execs_consS (wpS_any ?_)
  refine wid_due (Dt := Dt) (tvs := tvs) (tq := tq) (wd := (wd : Int)) (o4 := o4) (rest := x.law w u1 n jp j Dp pvs Drw wvs L o2 o3 ((L + 1 + 1 + 1 + 1, o4) :: rest)) B X T (by omega) F2 (news_perm N2 ?_) e4 ht htl f8 f9 ?_
  · intro p hp
    rcases List.mem_cons.mp hp with rfl | hp
    · exact .tail _ (.tail _ (.tail _ (.head _)))
    rcases List.mem_cons.mp hp with rfl | hp
    · exact .tail _ (.head _)
    · exact .tail _ (.tail _ (.tail _ (.tail _ hp)))
  intro h3 tk3 Dd dvs hdv F3 N3 l3 _
  dsimp only
  refine execs_consS (wpS_any ?_)
  refine wid_4 (tvs := tvs) (dvs := dvs) (tq := dueL (wd : Int) tq 8) (x := x) (u1 := u1) (n := n) (jp := jp) (j := j) B X T hroom hun F3 K (news_perm N3 ?_) hdv lt (Nat.lt_trans lt l3) ?_ heq ?_
  · intro p hp
    rcases List.mem_cons.mp hp with rfl | hp
    · exact .head _
    rcases List.mem_cons.mp hp with rfl | hp
    · exact .tail _ (.head _)
    · exact .tail _ (.tail _ (.tail _ hp))
  · rw [KBw.ints_length, List.size_toArray, swO_len, qbs, List.length_map, K.len]
  intro h4 tk4 jp4 F4 N4
  dsimp only
  refine wpS_any (wpAny_execs_nil ?_)
  exact hret _ _ jp4 _ _ F4 (fun p hp => N4 p (.tail _ hp))
end
end Mine

end
section
theorem Mine.resetK16 : True := by
  w_top off
  trivial
open PySem PySem.W PyProof.Rows PySem.Calls PyProof.Rows.LCg
set_option Elab.async false
set_option maxRecDepth 100000
set_option maxHeartbeats 2000000
set_option linter.unusedVariables false
namespace Mine
theorem fillK16 : (PySem.Challenge.rw_wf0014_01, hd.heap_39) = (PySem.Challenge.rw_wf0014_01, hd.heap_39) := by
  k_fill
  rfl
section
variable {w : World} {mean : ExcName → Option Value} {mg mb : Str → Option Value} {A A₀ : Around} {outer : List Env} {base h₀ : Heap} {L fa : Nat} {ccd : Value} {m : Str → Option Value} {s : Shared} {Q : Flow → Shared → Prop} {E : Value → Shared → Prop}
  {dp un : Nat} {gd : Option (List Code)} {rest : List (Addr × Obj)} {sc dr wo te re pl to tu du : Option Value} {x : LX} {u1 : Tok} {n : Int} {jp j Dp Drw : Nat} {pvs wvs : List Value} {q : List Int} {o2 o3 : Obj}
theorem law_13 {Dt : Nat} {tvs : List Value} {tq : List Int} {o4 : Obj} (B : Below A₀ base outer h₀) (X : (hd.heap_39 w.params).In h₀) (T : Top TP TL mean mg mb h₀) (hroom : dp + 40 < recursionLimit) (hun : un + 64 < cLine)
    (F : Fr h₀ L s.heap (lawM sc dr wo te re (some (.ref Dp)) (some (.ref Dt)) tu du)) (K : LawOk x L Dp Drw pvs wvs q o2 o3 ((L + 1 + 1 + 1 + 1, o4) :: rest)) (N : News h₀ L s.heap ((Dt, lst tvs) :: x.law w u1 n jp j Dp pvs Drw wvs L o2 o3 ((L + 1 + 1 + 1 + 1, o4) :: rest)))
    (e4 : ∃ v, o4.data = .cell v) (l4 : L + 1 + 1 + 1 + 1 < x.cs) (hr : ∀ p ∈ rest, p.1 ≠ L + 1 + 1 + 1 + 1) (ht : IntsAre tvs tq) (htl : tq.length = 8) (lt : x.pb < Dt)
    (heq : ∀ p ∈ wn, Tell (KBw.bInts (swO (qbs q) p.1 p.2).toArray) = dueL (p.1 : Int) tq 8)
    (hret : ∀ h' tk' jp' tu' du' o4', Fr h₀ L h' (lawM sc dr wo te re (some (.ref Dp)) (some (.ref Dt)) tu' du') → News h₀ L h' ((Dt, lst tvs) :: x.law w u1 n jp' j Dp pvs Drw wvs L o2 o3 ((L + 1 + 1 + 1 + 1, o4') :: rest)) → Q .next { s with heap := h', toks := tk' }) :
    wpS (model PR w) (AA none dp (lawE L fa ccd) outer gd un) (exec (nth (fnB lawS) 12) (lawE L fa ccd)) Q s := by
  have eS : fnS lawS = fnS lawS := rfl
  conv at eS => { rhs; whnf }
  have eF : nth (fnB lawS) 12 = Stmt.For _ _ widB [] _ := rfl
  rw [eF]
  refine wpS_For ?_
  dsimp only [lawE]
  rw [eS]
  generalize hnw : (Dt, lst tvs) :: x.law w u1 n jp j Dp pvs Drw wvs L o2 o3 ((L + 1 + 1 + 1 + 1, o4) :: rest) = nw at N
  k_steps
  refine Stop.mk ?_
  (with_reducible rename Fr _ _ _ _ => F9)
  (with_reducible rename News _ _ _ _ => N9)
  rename_i D h9 l9
  obtain ⟨oT, ts, N5, hT, hi⟩ : ∃ (oT : Obj) (ts : List Value), News h₀ L _ ((D, oT) :: nw) ∧ Heap.IsTuple _ D ts.toArray ∧ IntsAre ts [1, 2, 4, 8] := by
    refine ⟨_, _, N9, N9.isTup (.head _), ?_⟩
    repeat' (first | exact IntsAre.nil | refine IntsAre.cons _ _ ?_)
  clear N9
  have oo := K.ok.o
  have hD : ∀ {p : Addr × Obj}, p ∈ nw → p.1 < D := fun {p} hp => l9 p hp
  have hDpb : x.pb < D := hD (p := (x.pb, _)) (by rw [← hnw]; exact .tail _ (.tail _ (.tail _ (.tail _ (.tail _ (.head _))))))
  refine forS_tuple (env := lawE L fa ccd) (oT := oT) rfl hT F9 N5
    (fun i m news' => ∃ jp' tu' du' o4' v4, m = lawM sc dr wo te re (some (.ref Dp)) (some (.ref Dt)) tu' du' ∧ o4'.data = .cell v4 ∧ news' = (D, oT) :: (Dt, lst tvs) :: x.law w u1 n jp' j Dp pvs Drw wvs L o2 o3 ((L + 1 + 1 + 1 + 1, o4') :: rest)) ?_ ?_ ?_ ?_ ?_
  · rintro i m news' ⟨_, _, _, _, _, _, _, rfl⟩; rw [← hnw]; rfl
  · rintro i m news' ⟨_, _, _, _, _, _, _, rfl⟩; exact .head _
  · exact ⟨jp, tu, du, o4, e4.choose, rfl, e4.choose_spec, by rw [← hnw]⟩
  · rintro i v m₁ news₁ h tk I oI hv ⟨jp', tu', du', o4', v4, rfl, d4, rfl⟩ hI F₁ N₁
    obtain ⟨wdI, tw, hw, rfl⟩ := ints_at hi hv
    obtain ⟨wd, nn, hwn, rfl⟩ : ∃ wd nn : Nat, (wd, nn) ∈ wn ∧ wdI = (wd : Int) := by
      have hm : wdI ∈ ([1, 2, 4, 8] : List Int) := List.mem_of_getElem? hw
      simp only [List.mem_cons, List.not_mem_nil, or_false] at hm
      rcases hm with rfl | rfl | rfl | rfl
      · exact ⟨1, 8, by decide, rfl⟩
      · exact ⟨2, 4, by decide, rfl⟩
      · exact ⟨4, 2, by decide, rfl⟩
      · exact ⟨8, 1, by decide, rfl⟩
    have hIp : x.pb < I := hI (x.pb, _) (by rw [← hnw]; exact .tail _ (.tail _ (.tail _ (.tail _ (.tail _ (.tail _ (.head _)))))))
    have K' : ∀ o4'', LawOk x L Dp Drw pvs wvs q o2 o3 ((L + 1 + 1 + 1 + 1, o4'') :: (rest ++ [(D, oT), (I, oI)])) := fun o4'' =>
      ⟨K.ok, K.pv, K.rv, K.len, K.byte, K.c2, K.c3, K.l2, fun p hp => by
        have hsb : x.sg < x.pb := chain_lt K.ok.ch 1 9
        have hlb : x.ld < x.pb := chain_lt K.ok.ch 7 9
        rcases List.mem_cons.mp hp with rfl | hp
        · exact K.lr (L + 1 + 1 + 1 + 1, o4) (.head _)
        rcases List.mem_append.mp hp with hp | hp
        · exact K.lr p (.tail _ hp)
        rcases List.mem_cons.mp hp with rfl | hp
        · exact ⟨Nat.ne_of_gt hDpb, Nat.ne_of_gt (Nat.lt_trans hsb hDpb), Nat.ne_of_gt (Nat.lt_trans hlb hDpb)⟩
        · rw [List.mem_singleton.mp hp]
          exact ⟨Nat.ne_of_gt hIp, Nat.ne_of_gt (Nat.lt_trans hsb hIp), Nat.ne_of_gt (Nat.lt_trans hlb hIp)⟩, K.lp, K.lw⟩
    have N2 : News h₀ L h ((L + 1 + 1 + 1 + 1, o4') :: (I, oI) :: (D, oT) :: (Dt, lst tvs) :: x.law w u1 n jp' j Dp pvs Drw wvs L o2 o3 rest) := news_pickB N₁ 16 [16, 0, 1, 2, 3, 4, 5, 6, 7, 8, 9, 10, 11, 12, 13, 14, 15] (r := rest) (q := [(I, oI)])
    have lp := K.lp
    have lw := K.lw
    have C4 : Chain [L + 1 + 1 + 1 + 1, x.cs, x.sg, x.sd, x.st, x.pb2, x.cc, x.pc, x.ld, x.line, x.pb] := ⟨l4, K.ok.ch⟩
    have h4b : L + 1 + 1 + 1 + 1 < x.pb := chain_lt C4 0 10
    have hoth : ∀ p ∈ (I, oI) :: (D, oT) :: (Dt, lst tvs) :: x.law w u1 n jp' j Dp pvs Drw wvs L o2 o3 rest, p.1 ≠ L + 1 + 1 + 1 + 1 :=
      ne_c (Nat.ne_of_gt (Nat.lt_trans h4b hIp)) (ne_c (Nat.ne_of_gt (Nat.lt_trans h4b hDpb)) (ne_c (Nat.ne_of_gt (Nat.lt_trans h4b lt)) (ne_c (Nat.ne_of_gt (Nat.lt_trans h4b lp)) (ne_c (Nat.ne_of_gt (Nat.lt_trans h4b lw))
        (ne_c (chain_ne C4 9 0) (ne_c (chain_ne C4 8 0) (ne_c (chain_ne C4 10 0) (ne_c (chain_ne C4 4 0) (ne_c (chain_ne C4 3 0) (ne_c (chain_ne C4 7 0) (ne_c (chain_ne C4 6 0) (ne_c (chain_ne C4 1 0) (ne_c (chain_ne C4 2 0)
          (ne_c (Nat.ne_of_lt (Nat.lt_succ_of_lt (Nat.lt_succ_self _))) (ne_c (Nat.ne_of_lt (Nat.lt_succ_self _)) hr)))))))))))))))
    clear C4
    have hwq := heq _ hwn
    clear heq N₁ N5 hT hI hD l9 hret F9
    generalize hot : (I, oI) :: (D, oT) :: (Dt, lst tvs) :: x.law w u1 n jp' j Dp pvs Drw wvs L o2 o3 rest = oth at N2 hoth
    refine wpAny_assign_Name ?_
    k_steps
    (with_reducible rename Fr _ _ _ _ => F8)
    (with_reducible rename News _ _ _ _ => N8)
    rename_i o9 d9
    subst hot
    refine wid_body (x := x) (u1 := u1) (n := n) (jp := jp') (j := j) (o4 := o9) (tvs := tvs) (rest := rest ++ [(D, oT), (I, oI)]) B X T hroom hun F8 (K' o9) (news_pickA N8 [3, 4, 5, 6, 7, 8, 9, 10, 11, 12, 13, 14, 15, 16, 0] 17 [2, 1]) d9 hwn ht htl lt hwq ?_
    intro h' tk' jp'' tu'' du'' F' N'
    refine ⟨rfl, h', tk', _, (D, oT) :: (Dt, lst tvs) :: x.law w u1 n jp'' j Dp pvs Drw wvs L o2 o3 ((L + 1 + 1 + 1 + 1, o9) :: rest), rfl, F', news_pickD N' 15 [0, 2, 3, 4, 5, 6, 7, 8, 9, 10, 11, 12, 13, 14, 15, 16] [1] (r := rest) (q := [(D, oT), (I, oI)]), jp'', tu'', du'', o9, _, rfl, d9, rfl⟩
  · rintro h' tk m' news' F' N' ⟨jp', tu', du', o4', v4, rfl, d4, rfl⟩
    exact hret _ _ jp' tu' du' o4' F' (fun p hp => N' p (.tail _ hp))
end
end Mine

end
section
theorem Mine.resetK17 : True := by
  w_top off
  trivial
open PySem PySem.W PyProof.Rows PySem.Calls PyProof.Rows.LCg
set_option Elab.async false
set_option maxRecDepth 100000
set_option maxHeartbeats 2000000
set_option linter.unusedVariables false
namespace Mine
theorem fillK17 : (PySem.Challenge.rw_wf0014_01, hd.heap_39) = (PySem.Challenge.rw_wf0014_01, hd.heap_39) := by
  k_fill
  rfl
section
variable {w : World} {mean : ExcName → Option Value} {mg mb : Str → Option Value} {A A₀ : Around} {outer : List Env} {base h₀ : Heap} {L fa : Nat} {ccd : Value} {m : Str → Option Value} {s : Shared} {Q : Flow → Shared → Prop} {E : Value → Shared → Prop}
  {dp un : Nat} {gd : Option (List Code)} {rest : List (Addr × Obj)} {sc dr wo te re pl to tu du : Option Value} {x : LX} {u1 : Tok} {n : Int} {jp j Dp Drw : Nat} {pvs wvs : List Value} {q : List Int} {o2 o3 : Obj}
theorem law_14 (B : Below A₀ base outer h₀) (X : (hd.heap_39 w.params).In h₀) (T : Top TP TL mean mg mb h₀) (hroom : dp + 40 < recursionLimit) (H : CodeHd base 132 128)
    (F : Fr h₀ L s.heap (lawM sc dr wo te re pl to tu du)) (K : LawOk x L Dp Drw pvs wvs q o2 o3 rest) (N : News h₀ L s.heap (x.law w u1 n jp j Dp pvs Drw wvs L o2 o3 rest))
    (hret : ∀ h' tk', Fr h₀ L h' (lawM sc dr wo te re pl to tu du) → News h₀ L h' (x.law w u1 n jp j Dp pvs Drw wvs L o2 o3 rest) → Q (.ret (.bool true)) { s with heap := h', toks := tk' }) :
    wpAny (model PR w) (AA none dp (lawE L fa ccd) outer gd un) (exec (nth (fnB lawS) 13) (lawE L fa ccd)) Q E s := by
  have eS : fnS lawS = fnS lawS := rfl
  conv at eS => { rhs; whnf }
  have eB : nth (fnB lawS) 13 = nth (fnB lawS) 13 := rfl
  conv at eB => { rhs; whnf }
  dsimp only [lawE]
  rw [eS, eB]
  clear eS eB
  have c2 := K.c2
  have oo := K.ok.o
  have l2 := K.l2
  have lp := K.lp
  have lw := K.lw
  have hsb : x.sg < x.pb := chain_lt K.ok.ch 1 9
  have hlb : x.ld < x.pb := chain_lt K.ok.ch 7 9
  dsimp only [LX.law, LX.led] at N
  k_steps
  refine Stop.mk ?_
  show wpAny _ _ (call (Value.ref 49) [Value.ref x.line]) _ _ _
  refine lex_end (env := lawE L fa ccd) (x := x) (u1 := u1) (n := n) (jp := jp) (j := j) (rest := (Dp, lst pvs) :: (Drw, lst wvs) :: (L + 1 + 1, o2) :: (L + 1 + 1 + 1, o3) :: rest) B F X T rfl rfl (by omega) H K.ok ?_ (news_pick N [2, 3, 4, 5, 6, 7, 8, 9, 10, 0, 1, 11, 12] 13) ?_
  · exact ne_c (Nat.ne_of_gt (Nat.lt_trans hsb lp)) (ne_c (Nat.ne_of_gt (Nat.lt_trans hsb lw)) (ne_c (Nat.ne_of_lt (Nat.lt_trans (Nat.lt_trans (Nat.lt_succ_self _) l2) oo.1)) (ne_c (Nat.ne_of_lt (Nat.lt_trans l2 oo.1)) fun p hp => (K.lr p hp).2.1)))
  intro h1 tk1 t1 F1 N1
  clear F N
  k_steps
  exact hret _ _ F1 (news_pick N1 [9, 10, 0, 1, 2, 3, 4, 5, 6, 7, 8, 11, 12] 13)
end
end Mine

end
section
theorem Mine.resetZ1 : True := by
  w_top off
  trivial
open PySem PySem.W PyProof.Rows PySem.Calls
set_option maxRecDepth 100000
set_option maxHeartbeats 2000000
set_option linter.unusedVariables false
namespace Mine
theorem dot_add : ∀ {r r' : List Int}, r.length = r'.length → ∀ q, dot (List.zipWith (· + ·) r r') q = dot r q + dot r' q
  | [], [], _, q => rfl
  | a :: r, b :: r', h, [] => rfl
  | a :: r, b :: r', h, c :: q => by
    have := dot_add (Nat.succ.inj h) q
    simp only [dot, List.zipWith_cons_cons, List.sum_cons] at this ⊢
    rw [this, Int.add_mul]; omega
theorem dot_sub : ∀ {r r' : List Int}, r.length = r'.length → ∀ q, dot (List.zipWith (· - ·) r r') q = dot r q - dot r' q
  | [], [], _, q => rfl
  | a :: r, b :: r', h, [] => rfl
  | a :: r, b :: r', h, c :: q => by
    have := dot_sub (Nat.succ.inj h) q
    simp only [dot, List.zipWith_cons_cons, List.sum_cons] at this ⊢
    rw [this, Int.sub_mul]; omega
noncomputable def R8L : List (List Int) → List (List Int)
  | [a, b, c, d, e, f, g, h] => [List.zipWith (· + ·) a b, List.zipWith (· + ·) c d, List.zipWith (· + ·) e f, List.zipWith (· + ·) g h, List.zipWith (· - ·) a b, List.zipWith (· - ·) c d, List.zipWith (· - ·) e f, List.zipWith (· - ·) g h]
  | l => l
noncomputable def all8 (ls : List (List Int)) : Bool := ls.all fun l => l.length == 8
theorem R8_dot {q : List Int} : ∀ {ls : List (List Int)}, all8 ls = true → R8 (ls.map fun l => dot l q) = (R8L ls).map fun l => dot l q
  | [a, b, c, d, e, f, g, h], H => by
    simp only [all8, List.all_cons, List.all_nil, Bool.and_eq_true, beq_iff_eq] at H
    obtain ⟨h1, h2, h3, h4, h5, h6, h7, h8, _⟩ := H
    simp only [List.map, R8, R8L, dot_add (h1.trans h2.symm), dot_add (h3.trans h4.symm), dot_add (h5.trans h6.symm), dot_add (h7.trans h8.symm), dot_sub (h1.trans h2.symm), dot_sub (h3.trans h4.symm), dot_sub (h5.trans h6.symm), dot_sub (h7.trans h8.symm)]
  | [], _ => rfl
  | [_], _ => rfl
  | [_, _], _ => rfl
  | [_, _, _], _ => rfl
  | [_, _, _, _], _ => rfl
  | [_, _, _, _, _], _ => rfl
  | [_, _, _, _, _, _], _ => rfl
  | [_, _, _, _, _, _, _], _ => rfl
  | _ :: _ :: _ :: _ :: _ :: _ :: _ :: _ :: _ :: _, _ => rfl
noncomputable def TellL (ls : List (List Int)) : List (List Int) := pls.map fun p => (R8L (R8L (R8L ls))).getD p.toNat []
theorem getD_dot {q : List Int} (ls : List (List Int)) (i : Nat) : (ls.map fun l => dot l q).getD i 0 = dot (ls.getD i []) q := by
  simp only [List.getD_eq_getElem?_getD, List.getElem?_map]
  cases ls[i]? <;> rfl
theorem Tell_dot {q : List Int} {ls ls1 ls2 ls3 : List (List Int)} (h0 : all8 ls = true) (e1 : R8L ls = ls1) (h1 : all8 ls1 = true) (e2 : R8L ls1 = ls2) (h2 : all8 ls2 = true) (e3 : R8L ls2 = ls3) : Tell (ls.map fun l => dot l q) = pls.map fun p => dot (ls3.getD p.toNat []) q := by
  simp only [Tell, iterR, R8_dot h0, e1, R8_dot h1, e2, R8_dot h2, e3, getD_dot]
theorem dot_cons0 (r q : List Int) (c : Int) : dot (0 :: r) (c :: q) = dot r q := by
  simp only [dot, List.zipWith_cons_cons, List.sum_cons, Int.zero_mul, Int.zero_add]
theorem dot_cons1 (a : Int) (r q : List Int) (c : Int) : dot (a :: r) (c :: q) = a * c + dot r q := by
  simp only [dot, List.zipWith_cons_cons, List.sum_cons]
theorem dot_nil (q : List Int) : dot [] q = 0 := rfl
theorem dot_z : ∀ (n : Nat) (q : List Int), dot (List.replicate n 0) q = 0
  | 0, _ => rfl
  | n + 1, [] => rfl
  | n + 1, c :: q => (dot_cons0 _ _ _).trans (dot_z n q)
theorem dot_one (n : Nat) (a c : Int) (q : List Int) : dot (a :: List.replicate n 0) (c :: q) = a * c := by
  rw [dot_cons1, dot_z, Int.add_zero]
/-- the unit rows, each times k -/
noncomputable def uns (k : Int) : Nat → List (List Int)
  | 0 => []
  | n + 1 => (k :: List.replicate n 0) :: (uns k n).map (0 :: ·)
theorem uns_dot (k : Int) : ∀ (q : List Int), (uns k q.length).map (fun l => dot l q) = q.map (k * ·)
  | [] => rfl
  | c :: q => by
    simp only [List.length_cons, uns, List.map_cons, List.map_map, dot_one, List.cons.injEq, true_and]
    rw [← uns_dot k q]
    exact List.map_congr_left fun l _ => dot_cons0 l q c
theorem uns_one (q : List Int) (n : Nat) (h : q.length = n) : (uns 1 n).map (fun l => dot l q) = q := by
  subst h
  rw [uns_dot]
  exact (List.map_congr_left fun c _ => Int.one_mul c).trans (List.map_id q)
theorem Tell_lin {q : List Int} (ls ls' : List (List Int)) (h : (all8 ls && all8 (R8L ls) && all8 (R8L (R8L ls)) && decide (TellL ls = ls')) = true) : Tell (ls.map fun l => dot l q) = ls'.map fun l => dot l q := by
  simp only [Bool.and_eq_true, decide_eq_true_eq] at h
  obtain ⟨⟨⟨h0, h1⟩, h2⟩, h3⟩ := h
  rw [Tell_dot h0 rfl h1 rfl h2 rfl, ← h3, TellL, List.map_map]
  refine List.map_congr_left fun p _ => ?_
  rfl



theorem plain_walsh {q : List Int} (hq : q.length = 8) : Tell q = (growN 3).map fun r => dot r q := by
  have e := uns_one q 8 hq
  conv => lhs; rw [← e]
  exact Tell_lin (uns 1 8) (growN 3) (by decide +kernel)
theorem plain_twice {q : List Int} (hq : q.length = 8) : Tell (Tell q) = q.map fun c => 8 * c := by
  rw [plain_walsh hq, Tell_lin (growN 3) (uns 8 8) (by decide +kernel), ← hq]
  exact uns_dot 8 q
theorem Tell_len (q : List Int) : (Tell q).length = 8 := rfl
end Mine

end
section
theorem Mine.resetZ2 : True := by
  w_top off
  trivial
open PySem PySem.W PyProof.Rows PySem.Calls
set_option maxRecDepth 100000
set_option maxHeartbeats 2000000
set_option linter.unusedVariables false
namespace Mine
/-- an int as a byte and back -/
noncomputable def bb (c : Int) : Int := ((c.toNat.toUInt8).toNat : Int)
theorem byte_back {c : Int} (h : 0 ≤ c ∧ c < 256) : bb c = c := by
  have h1 : c.toNat < 256 := by omega
  rw [bb, show (c.toNat.toUInt8).toNat = c.toNat % 256 from rfl, Nat.mod_eq_of_lt h1]
  omega
theorem bb_getD {q : List Int} (hb : ∀ c ∈ q, 0 ≤ c ∧ c < 256) (i : Nat) : bb (q.getD i 0) = q.getD i 0 := by
  refine byte_back ?_
  rw [List.getD_eq_getElem?_getD]
  cases e : q[i]? with
  | none => exact ⟨by decide, by decide⟩
  | some c => exact hb c (List.mem_of_getElem? e)
/-- where the bytes turned at a width come from -/
noncomputable def pw (p : Nat × Nat) : List Nat := (List.range 8).map fun i => i / p.1 * p.1 + p.1 - 1 - i % p.1
theorem sw_pw {q : List Int} (hq : q.length = 8) : ∀ p ∈ wn, KBw.bInts (swO (qbs q) p.1 p.2).toArray = (pw p).map fun i => bb (q.getD i 0) := by
  match q, hq with
  | [a, b, c, d, e, f, g, h], _ =>
    intro p hp
    simp only [wn, List.mem_cons, List.not_mem_nil, or_false] at hp
    rcases hp with rfl | rfl | rfl | rfl <;> rfl
theorem neg_dot (r q : List Int) : dot (r.map fun x => -x) q = -dot r q := by
  induction r generalizing q with
  | nil => rfl
  | cons a r ih =>
    cases q with
    | nil => rfl
    | cons c q =>
      rw [List.map_cons, dot_cons1, dot_cons1, ih]
      rw [Int.neg_mul]
      omega
noncomputable def due1L (wd : Int) (i : Nat) (t : List Int) : List Int := if Builtin.bitAnd (i : Int) ((8 : Int).fdiv wd) = 0 then t else t.map fun x => -x
noncomputable def dueLL (wd : Int) (ls : List (List Int)) : Nat → List (List Int)
  | 0 => []
  | i + 1 => dueLL wd ls i ++ [due1L wd i (ls.getD i [])]
theorem due1_dot (wd : Int) (i : Nat) (r q : List Int) : dot (due1L wd i r) q = due1 wd i (dot r q) := by
  unfold due1L due1
  split
  · rfl
  · exact neg_dot r q
theorem due_dot (wd : Int) (ls : List (List Int)) (q : List Int) : ∀ n, (dueLL wd ls n).map (fun l => dot l q) = dueL wd (ls.map fun l => dot l q) n
  | 0 => rfl
  | n + 1 => by
    rw [dueLL, dueL, List.map_append, due_dot wd ls q n, getD_dot]
    exact congrArg (fun z => _ ++ [z]) (due1_dot _ _ _ _)
theorem due_lin : ∀ p ∈ wn, (all8 ((pw p).map fun i => (uns 1 8).getD i []) && all8 (R8L ((pw p).map fun i => (uns 1 8).getD i [])) && all8 (R8L (R8L ((pw p).map fun i => (uns 1 8).getD i []))) && decide (TellL ((pw p).map fun i => (uns 1 8).getD i []) = dueLL (p.1 : Int) (growN 3) 8)) = true := by
  decide +kernel
theorem plain_width {q : List Int} (hq : q.length = 8) (hb : ∀ c ∈ q, 0 ≤ c ∧ c < 256) : ∀ p ∈ wn, Tell (KBw.bInts (swO (qbs q) p.1 p.2).toArray) = dueL (p.1 : Int) (Tell q) 8 := by
  intro p hp
  have e : ∀ i, bb (q.getD i 0) = dot ((uns 1 8).getD i []) q := fun i => by
    rw [bb_getD hb, ← getD_dot, uns_one q 8 hq]
  have e2 : ((pw p).map fun i => bb (q.getD i 0)) = ((pw p).map fun i => (uns 1 8).getD i []).map fun l => dot l q := by
    rw [List.map_map]
    exact List.map_congr_left fun i _ => e i
  rw [sw_pw hq p hp, e2, Tell_lin _ _ (due_lin p hp), plain_walsh hq, due_dot]
end Mine

end
section
theorem Mine.resetZ3 : True := by
  w_top off
  trivial
open PySem PySem.W PyProof.Rows PySem.Calls
set_option maxRecDepth 100000
set_option maxHeartbeats 2000000
set_option linter.unusedVariables false
namespace Mine
theorem dig_facts : ∀ m < 256, (Nat.toDigits 10 m).map Char.toNat ≠ [] ∧ (∀ c ∈ (Nat.toDigits 10 m).map Char.toNat, 48 ≤ c ∧ c ≤ 57) ∧ ((Nat.toDigits 10 m).map Char.toNat).length < 10 := by decide +kernel
theorem wd_cps (m : Nat) : (wd (m : Int)).cps.toList = (Nat.toDigits 10 m).map Char.toNat := KIN.signs_num m
theorem wd_facts {n : Int} (h : 0 ≤ n ∧ n < 256) : Dig (wd n) ∧ (wd n).length < 10 := by
  obtain ⟨m, rfl⟩ := Int.eq_ofNat_of_zero_le h.1
  have hm : m < 256 := by omega
  obtain ⟨a, b, c⟩ := dig_facts m hm
  rw [← wd_cps m] at a b c
  exact ⟨⟨a, b⟩, by rw [len_cps]; exact c⟩
theorem wd_ok {n : Int} (h : 0 ≤ n ∧ n < 256) : PyData.strOk (wd n) = true := by
  have hd := (wd_facts h).1.2
  show (wd n).cps.all (· < 0x110000) = true
  rw [Array.all_eq_true']
  intro c hc
  have := hd c (Array.mem_toList_iff.mpr hc)
  exact decide_eq_true (by omega)
theorem dig_no {x : Str} (h : Dig x) : 10 ∉ x.cps.toList := fun hc => by have := h.2 10 hc; omega
theorem cnt_piece {x : Str} (h : Dig x) (k : Int) : cnt 10 (piece x k).cps.toList = nl k := by
  unfold piece nl
  split
  · rw [cps_app, cnt_append, cnt_none 10 _ (dig_no h), show (Str.ofString " ").cps.toList = [32] from by decide, cnt_cons, cnt_nil]; simp
  split
  · rw [cps_app, cps_app, cnt_append, cnt_append, cnt_none 10 _ (dig_no h), show (Str.ofString "\"").cps.toList = [34] from by decide, cnt_cons, cnt_nil]; simp
  · rw [cps_app, cnt_append, cps_joined, show (Str.ofString "\n").cps.toList = [10] from by decide, cnt_cons, cnt_nil, cnt_none 10]
    · simp
    · intro hc
      obtain ⟨c, hc1, hc2⟩ := List.mem_flatMap.mp hc
      have := h.2 c hc1
      simp only [List.mem_cons, List.not_mem_nil, or_false] at hc2
      omega
theorem cnt_wcps : ∀ {ps : List (Str × Int)}, (∀ p ∈ ps, Dig p.1) → cnt 10 (wcps ps) = nlS ps
  | [], _ => rfl
  | p :: r, h => by
    show cnt 10 ((piece p.1 p.2).cps.toList ++ wcps r) = nl p.2 + nlS r
    rw [cnt_append, cnt_piece (h p (.head _)), cnt_wcps fun q hq => h q (.tail _ hq)]
theorem count_text {tx : Str} {ps : List (Str × Int)} (e : tx.cps.toList = wcps ps) (h : ∀ p ∈ ps, Dig p.1) : PySem.Txt.count tx (Str.ofString "\n") = nlS ps := by
  rw [show Str.ofString "\n" = (⟨#[10]⟩ : Str) from by decide, count_cnt, e, cnt_wcps h]
end Mine

end
section
theorem Mine.resetZ4 : True := by
  w_top off
  trivial
open PySem PySem.W PyProof.Rows PySem.Calls PyProof.Rows.LCg
set_option Elab.async false
set_option maxRecDepth 100000
set_option maxHeartbeats 2000000
set_option linter.unusedVariables false
namespace Mine
section
variable {w : World} {mean : ExcName → Option Value} {mg mb : Str → Option Value} {A A₀ : Around} {outer : List Env} {base h₀ : Heap} {L fa : Nat} {ccd : Value} {m : Str → Option Value} {s : Shared} {Q : Flow → Shared → Prop}
  {dp un : Nat} {gd : Option (List Code)}
theorem law_all {sa : Addr} {its : List Value} {zs : List Int} {o1 o2 o3 o4 : Obj} (B : Below A₀ base outer h₀) (X : (hd.heap_39 w.params).In h₀) (T : Top TP TL mean mg mb h₀) (hroom : dp + 40 < recursionLimit) (hun : un + 64 < cLine) (H : CodeHd base 132 128)
    (F : Fr h₀ L s.heap (lawM (some (.ref sa)) none none none none none none none none)) (N : News h₀ L s.heap [(L + 1 + 1 + 1 + 1, o4), (L + 1 + 1 + 1, o3), (L + 1 + 1, o2), (L + 1, o1), (128, tabObj #[])]) (l128 : 128 < L)
    (c1 : o1.data = .cell none) (c2 : o2.data = .cell none) (c3 : o3.data = .cell none) (c4 : o4.data = .cell none)
    (hl : h₀.IsList sa its.toArray) (hI : IntsAre its zs) (hz : ¬ (63 : Int) < (zs.length : Int))
    (hret : ∀ h' tk' m' ps, Fr h₀ L h' m' → News h₀ L h' [(128, tabObj ps)] → Q (.ret (.bool true)) { s with heap := h', toks := tk' }) :
    wpS (model PR w) (AA none dp (lawE L fa ccd) outer gd un) (execs (fnB lawS) (lawE L fa ccd)) Q s := by
  have eW : fnB lawS = [nth (fnB lawS) 0, nth (fnB lawS) 1, nth (fnB lawS) 2, nth (fnB lawS) 3, nth (fnB lawS) 4, nth (fnB lawS) 5, nth (fnB lawS) 6, nth (fnB lawS) 7, nth (fnB lawS) 8, nth (fnB lawS) 9, nth (fnB lawS) 10, nth (fnB lawS) 11, nth (fnB lawS) 12, nth (fnB lawS) 13] := rfl
  rw [eW]
  have CL : Chain [128, L, L + 1, L + 1 + 1, L + 1 + 1 + 1, L + 1 + 1 + 1 + 1] := ⟨l128, Nat.lt_succ_self _, Nat.lt_succ_self _, Nat.lt_succ_self _, Nat.lt_succ_self _, trivial⟩
  -- 1
  refine execs_consS (wpS_any ?_)
  refine law_1 (o1 := o1) (rest := [(L + 1 + 1, o2), (L + 1 + 1 + 1, o3), (L + 1 + 1 + 1 + 1, o4), (128, tabObj #[])]) B X T hroom F (news_pick N [3, 2, 1, 0, 4] 5) (ne_c (chain_ne CL 3 2) (ne_c (chain_ne CL 4 2) (ne_c (chain_ne CL 5 2) (ne_c (chain_ne CL 0 2) ne_n)))) hl hI hz c1 ?_
  intro h1 tk1 D1 jj1 cvs o1' cs F1 N1 lD1 hcs hcl hcb d1
  clear F N
  dsimp only
  -- 2
  refine execs_consS (wpS_any ?_)
  refine law_2 (cvs := cvs) (cs := cs) B X T hroom F1 N1 d1 hcs hcl hcb ?_
  intro h2 tk2 D2 dvs ds F2 N2 l2 hds hdl
  clear F1 N1
  dsimp only
  -- 3
  refine execs_consS (wpS_any ?_)
  refine law_3 (dvs := dvs) (ds := ds) B X T hroom F2 N2 hds hdl ?_
  intro h3 tk3 Dw wvs F3 N3 l3 hws
  clear F2 N2
  dsimp only
  -- the words
  generalize hvs : (ds.map fun d => wd (d.fmod 256)) = vs at hws
  generalize hks : (ds.map fun d => d.fdiv 256) = ks
  have hb256 : ∀ d : Int, 0 ≤ d.fmod 256 ∧ d.fmod 256 < 256 := fun d => ⟨Int.fmod_nonneg_of_pos _ (by decide), Int.fmod_lt_of_pos _ (by decide)⟩
  have hvl : vs.length = 8 := by rw [← hvs, List.length_map, hdl]
  have hkl : ks.length = 8 := by rw [← hks, List.length_map, hdl]
  have hvd : ∀ v ∈ vs, Dig v ∧ v.length < 10 ∧ PyData.strOk v = true := by
    intro v hv
    rw [← hvs] at hv
    obtain ⟨d, _, rfl⟩ := List.mem_map.mp hv
    exact ⟨(wd_facts (hb256 d)).1, (wd_facts (hb256 d)).2, wd_ok (hb256 d)⟩
  -- 4
  refine execs_consS (wpS_any ?_)
  refine law_4 (jw := 0) (dvs := dvs) (ds := ds) (wvs := wvs) (xs := vs) B X T hroom F3 N3 hds hdl hws hvl (fun v hv => (hvd v hv).2.1) ?_
  intro h4 tk4 tx t4 htx F4 N4
  rw [hks] at htx
  clear F3 N3
  dsimp only
  have hzd : ∀ p ∈ vs.zip ks, Dig p.1 := fun p hp => (hvd _ (List.of_mem_zip hp).1).1
  have htl : tx.length < 1000 := by
    rw [len_cps, htx]
    have h1 := wcps_len (ps := vs.zip ks) (fun p hp => (hvd _ (List.of_mem_zip hp).1).2.1)
    rw [List.length_zip, hvl, hkl] at h1
    omega
  have k128 : 128 < Dw := l3 (128, tabObj #[]) (by simp)
  have kL2 : L + 1 + 1 < Dw := l3 (L + 1 + 1, o2) (by simp)
  have kL3 : L + 1 + 1 + 1 < Dw := l3 (L + 1 + 1 + 1, o3) (by simp)
  have kL4 : L + 1 + 1 + 1 + 1 < Dw := l3 (L + 1 + 1 + 1 + 1, o4) (by simp)
  -- 5
  refine execs_consS (wpS_any ?_)
  refine law_5 (o2 := o2) (rest := [(Dw, lst wvs), (L + 1 + 1 + 1, o3), (L + 1 + 1 + 1 + 1, o4)]) B X T hroom H F4 (news_pick N4 [7, 4, 0, 5, 6] 8) (ne_c (Nat.ne_of_gt k128) (ne_c (chain_ne CL 4 0) (ne_c (chain_ne CL 5 0) ne_n))) (ne_c (Nat.ne_of_gt kL2) (ne_c (chain_ne CL 4 3) (ne_c (chain_ne CL 5 3) ne_n))) c2 l128 htl ?_
  intro h5 tk5 jp j x u1 xs ps o2' hx hxs d2 lcs lr5 F5 N5
  clear F4 N4
  dsimp only
  have oo := hx.o
  have w5 : Dw < x.cs := lr5 (Dw, lst wvs) (by simp)
  have w3 : L + 1 + 1 + 1 < x.cs := lr5 (L + 1 + 1 + 1, o3) (by simp)
  have w4 : L + 1 + 1 + 1 + 1 < x.cs := lr5 (L + 1 + 1 + 1 + 1, o4) (by simp)
  -- 6
  refine execs_consS (wpS_any ?_)
  refine law_6 (Dw := Dw) (wvs := wvs) (vs := vs) (ks := ks) (x := x) (u1 := u1) (jp := jp) (xs := xs) (j := j) (o2 := o2') (rest := [(128, tabObj ps), (Dw, lst wvs), (L + 1 + 1 + 1, o3), (L + 1 + 1 + 1 + 1, o4)]) B X T hroom H F5 (news_pick N5 [0, 1, 2, 3, 4, 5, 6, 7, 8, 10, 9, 11, 12, 13] 14) hx d2 lcs.1 ?_ (by simp) hws (fun v hv => ⟨(hvd v hv).1, Nat.le_of_lt (hvd v hv).2.1⟩) (by rw [hvl, hkl]) (by omega) ?_ ?_ ?_
  · intro p hp
    simp only [List.mem_cons, List.not_mem_nil, or_false] at hp
    rcases hp with rfl | rfl | rfl | rfl
    · exact lcs.2
    · exact w5
    · exact w3
    · exact w4
  · rw [hxs, tailT_eq, ← htx]; rfl
  · have : xs.length = (signs tx).length := by rw [← hxs, List.length_map]
    rw [this, signs_length']; exact htl
  intro h6 tk6 Dr j6 u6 rvs hrs F6 N6 l6 lpb6
  clear F5 N5
  dsimp only
  -- 7
  refine execs_consS (wpS_any ?_)
  refine law_7 (Dw := Dw) (Dr := Dr) (o2 := o2') (wvs := wvs) (rvs := rvs) (vs := vs) (n := 1 + nlS (vs.zip ks)) (tx := tx) (x := x) (u1 := u6) (jp := jp) (j := j6) (rest := [(128, tabObj ps), (L + 1 + 1 + 1, o3), (L + 1 + 1 + 1 + 1, o4)]) B X T hroom hun H F6 (news_pick N6 [0, 12, 1, 2, 3, 4, 5, 6, 7, 8, 9, 10, 11, 13, 14] 15) hx d2 lcs.1 ?_ hws hrs (fun v hv => (hvd v hv).2.2) lpb6 w5 (by rw [count_text htx hzd]) (by omega) htl ?_
  · intro p hp
    simp only [List.mem_cons, List.not_mem_nil, or_false] at hp
    rcases hp with rfl | rfl | rfl
    · exact lcs.2
    · exact w3
    · exact w4
  intro h7 tk7 F7 N7
  clear F6 N6
  dsimp only
  -- 8
  refine execs_consS (wpS_any ?_)
  have C3 : Chain [L + 1 + 1 + 1, x.cs, x.sg, x.sd, x.st, x.pb2, x.cc, x.pc, x.ld, x.line, x.pb] := ⟨w3, hx.ch⟩
  have C4 : Chain [L + 1 + 1 + 1 + 1, x.cs, x.sg, x.sd, x.st, x.pb2, x.cc, x.pc, x.ld, x.line, x.pb] := ⟨w4, hx.ch⟩
  have C128 : Chain [128, x.cs, x.sg, x.sd, x.st, x.pb2, x.cc, x.pc, x.ld, x.line, x.pb] := ⟨lcs.2, hx.ch⟩
  have z3 : ∀ p ∈ (Dw, lst wvs) :: x.led w u6 (1 + nlS (vs.zip ks)) [] jp [] j6 [(L + 1 + 1, o2'), (128, tabObj ps), (L + 1 + 1 + 1 + 1, o4)], p.1 ≠ L + 1 + 1 + 1 :=
    ne_c (Nat.ne_of_gt kL3) (ne_c (chain_ne C3 9 0) (ne_c (chain_ne C3 8 0) (ne_c (chain_ne C3 10 0) (ne_c (chain_ne C3 4 0) (ne_c (chain_ne C3 3 0) (ne_c (chain_ne C3 7 0) (ne_c (chain_ne C3 6 0) (ne_c (chain_ne C3 1 0) (ne_c (chain_ne C3 2 0)
      (ne_c (chain_ne CL 3 4) (ne_c (chain_ne CL 0 4) (ne_c (chain_ne CL 5 4) ne_n))))))))))))
  have w3r : L + 1 + 1 + 1 < Dr := by
    exact Nat.lt_trans (chain_lt C3 0 10) lpb6
  refine law_8 (Dr := Dr) (o3 := o3) (rvs := rvs) (ds := ds) (rest := (Dw, lst wvs) :: x.led w u6 (1 + nlS (vs.zip ks)) [] jp [] j6 [(L + 1 + 1, o2'), (128, tabObj ps), (L + 1 + 1 + 1 + 1, o4)]) B X T hroom F7 (news_pick N7 [0, 13, 1, 2, 3, 4, 5, 6, 7, 8, 9, 10, 11, 12, 14] 15) c3 z3 w3r (hvs ▸ hrs) hdl ?_
  intro h8 tk8 Drw rwv o3' hrw d3 l8 _ F8 N8
  clear F7 N7
  dsimp only
  have lpbw : x.pb < Drw := l8 (x.pb, _) (.tail _ (.tail _ (.tail _ (.head _))))
  -- 9
  refine execs_consS ?_
  refine law_9 B X T hroom F8 N8 ?_
  intro h9 tk9 Dp pvs hps F9 N9 l9
  dsimp only
  have lpbp : x.pb < Dp := l9 (x.pb, _) (.tail _ (.tail _ (.tail _ (.tail _ (.tail _ (.tail _ (.head _)))))))
  clear F8 N8
  generalize hq : (ds.map fun d => d.fmod 256) = q at hrw
  have hql : q.length = 8 := by rw [← hq, List.length_map, hdl]
  have hqb : ∀ c ∈ q, 0 ≤ c ∧ c < 256 := by
    intro c hc
    rw [← hq] at hc
    obtain ⟨d, _, rfl⟩ := List.mem_map.mp hc
    exact hb256 d
  have K : LawOk x L Dp Drw pvs rwv q o2' o3' [(L + 1 + 1 + 1 + 1, o4), (128, tabObj ps)] := ⟨hx, hps, hrw, hql, hqb, d2, d3, w3, fun p hp => by
    have a1 : L + 1 + 1 + 1 + 1 < x.pb := chain_lt C4 0 10
    have a2 : L + 1 + 1 + 1 + 1 < x.sg := chain_lt C4 0 2
    have a3 : L + 1 + 1 + 1 + 1 < x.ld := chain_lt C4 0 8
    have b1 : 128 < x.pb := chain_lt C128 0 10
    have b2 : 128 < x.sg := chain_lt C128 0 2
    have b3 : 128 < x.ld := chain_lt C128 0 8
    rcases List.mem_cons.mp hp with rfl | hp
    · exact ⟨Nat.ne_of_lt a1, Nat.ne_of_lt a2, Nat.ne_of_lt a3⟩
    · rw [List.mem_singleton.mp hp]
      exact ⟨Nat.ne_of_lt b1, Nat.ne_of_lt b2, Nat.ne_of_lt b3⟩, lpbp, lpbw⟩
  have N10 : News h₀ L h9 (x.law w u6 (1 + nlS (vs.zip ks)) jp j6 Dp pvs Drw rwv L o2' o3' [(L + 1 + 1 + 1 + 1, o4), (128, tabObj ps)]) := news_pick N9 [0, 1, 5, 6, 7, 8, 9, 10, 11, 12, 13, 14, 3, 16, 15] 17
  clear N9
  generalize (1 + nlS (vs.zip ks)) = n at *
  -- 10
  refine execs_consS (wpS_any ?_)
  refine law_10 B X T hroom F9 K N10 ?_
  intro h10 tk10 Dt tvs jp10 htv F10 N11 lt
  clear F9 N10
  dsimp only
  -- 11
  refine execs_consS (wpS_any ?_)
  refine law_11 B X T hroom hun F10 K N11 htv (plain_walsh hql) ?_
  intro h11 tk11 F11 N12
  clear F10 N11
  dsimp only
  -- 12
  refine execs_consS (wpS_any ?_)
  refine law_12 B X T hroom hun F11 K N12 htv (Tell_len q) lt (plain_twice hql) ?_
  intro h12 tk12 jp12 F12 N13
  clear F11 N12
  dsimp only
  -- 13
  refine execs_consS ?_
  refine law_13 B X T hroom hun F12 K N13 ⟨_, c4⟩ w4 ?_ htv (Tell_len q) lt (plain_width hql hqb) ?_
  · exact ne_c (chain_ne CL 0 5) ne_n
  intro h13 tk13 jp13 tu13 du13 o4' F13 N14
  clear F12 N13
  dsimp only
  -- 14
  refine execs_consS (wpS_any ?_)
  refine law_14 B X T hroom H F13 (K.swap (o4' := o4')) (fun p hp => N14 p (.tail _ hp)) ?_
  intro h14 tk14 F14 N15
  dsimp only
  refine hret _ _ _ ps F14 (fun p hp => ?_)
  rw [List.mem_singleton.mp hp]
  exact N15 _ (law_memr (.tail _ (.head _)))
end
end Mine

end
section
theorem Mine.resetH2 : True := by
  w_top off
  trivial
open PySem PySem.W PyProof.Rows PySem.Calls
open Sem (wp)
set_option Elab.async false
set_option maxRecDepth 100000
set_option maxHeartbeats 2000000
set_option linter.unusedVariables false
namespace Mine
section
variable {prog : Program} {w : World} {A : Around} {s : Shared}
theorem call_cellsS {R : Flow → Shared → Prop} {name : Str} {params : Arguments} {body : List Stmt} {scope : Scope}
    {pm cd doc : Value} {a : Addr} {o : Obj} {args : List Value} {binds : List (Str × Value)}
    (hroom : A.depth < recursionLimit) (ho : s.heap.get? a = some o) (hdata : o.data = .func (Calls.docDef name params body scope pm cd doc)) (hlim : s.heap.NoLimit) (hcd : s.heap.CodeRec cd name)
    (hbind : bindArgs (Calls.docDef name params body scope pm cd doc) ⟨args, []⟩ = pure binds)
    (hkind : ∀ x ∈ binds, scope.names.lookup x.1 = some .local ∨ (scope.names.lookup x.1 = some .cell ∧ ((cellsFrom (s.heap.objs.size + 1) scope.names []).lookup x.1).isSome = true))
    (hnd : ((cellsFrom 0 scope.names []).map (·.1)).Nodup)
    (h : ∀ h₁ tk cells, Fr s.heap s.heap.objs.size h₁ (bindL (envOfC name scope s.heap.objs.size a cd).kindOf binds fun _ => none) → News s.heap s.heap.objs.size h₁ cells →
      CellsAre (bindC (envOfC name scope s.heap.objs.size a cd).kindOf binds fun _ => none) (cellsFrom (s.heap.objs.size + 1) scope.names []) cells →
      wpS (model prog w) (A.deeper (envOfC name scope s.heap.objs.size a cd)) (execs body (envOfC name scope s.heap.objs.size a cd))
        (fun f s' => R (.ret (match f with | .ret v => v | _ => .none)) s') { s with heap := h₁, toks := tk })
    (hco : scope.isCoroutine = false := by rfl) (hgen : scope.isGenerator = false := by rfl) (hk : scope.kind = .function := by rfl) :
    codeS (model prog w) A (.call (.ref a) ⟨args, []⟩) R s := by
  refine codeS_call_function hroom ho hdata hco hgen rfl hcd (wpS_any ?_)
  rw [hbind]
  refine wpAny_pure ?_
  refine wpS_any (wpAny_newFunctionEnv_cells hk hkind fun env' he s' x => ?_)
  subst he
  refine ⟨hlim.keeps x.toInCall.keep, codeS_func ?_⟩
  obtain ⟨h₁, tk, rfl, _⟩ := x.done
  obtain ⟨cells, NC, Y⟩ := Cl.news (h₀ := s.heap) (Nat.le_refl _) fun n c hm => ⟨x.cell n c (lookup_of_mem_nodup (cellsFrom_names scope.names 0 (s.heap.objs.size + 1) [] [] rfl ▸ hnd) hm), x.above n c hm⟩
  exact h h₁ tk cells ⟨x.toInCall.ns, x.toInCall.keep, Nat.le_refl _⟩ NC Y
theorem kn_postS {M : Model} {A : Around} {cd : Code} {s s₁ : Shared} {cw : ClaimW} {cl : Str → Option Addr} {mean : ExcName → Option Value} {args : List WData} {tabs : List (Addr × Addr)} (hT : TabsAt tabs s₁.heap) (hr : ∀ a x, cw.raises a x = false)
    (h : codeS M A cd (fun f s' => ∃ v, f = .ret v ∧ GoodW cw cl mean args { s₁ with heap := ghostOf s₁.heap tabs } (.ok (.ret v)) s' ∧ GrownAll tabs s'.heap) s) : wpS M A (runValue cd) (fun v s' => GoodWG cw cl mean args s₁ (.ok (.ret v)) s') s := by
  refine wpS_runValue (codeS_mono h ?_)
  rintro f s' ⟨v, rfl, ⟨hc, hk, hos, hg⟩, hgr⟩
  refine ⟨v, rfl, ?_⟩
  have keep : ∀ b o, b ∉ tabs.map (·.2) → s₁.heap.get? b = some o → s'.heap.get? b = some o := fun b o hb e => hk b o (ghost_ne e hb)
  have grown : ∀ b o, b ∈ tabs.map (·.2) → s₁.heap.get? b = some o → isCodeTable s₁.heap b ∧ o = tabObj #[] ∧ ∃ ps, s'.heap.get? b = some (tabObj ps) := fun b o hb e => by
    obtain ⟨q, hq, rfl⟩ := List.mem_map.mp hb
    have e2 := (hT q hq).2
    rw [e] at e2
    exact ⟨((hT q hq).1.tab (hT q hq).2).isCodeTable, Option.some.inj e2, hgr.get q hq⟩
  refine ⟨?_, ⟨fun b o e => ?_, fun b o e => ?_⟩, hos, .of_eq hg⟩
  · rcases hc with ⟨v', d, as, r1, r2, r3, r4, r5⟩ | ⟨e, ob, x, _, _, _, r4, _⟩
    · refine .inl ⟨v', d, as, r1, r2, r3, r4, fun q => ⟨(r5 q).1, fun a ha => ?_⟩⟩
      cases q1 : s₁.heap.get? a with
      | none => rfl
      | some o =>
        by_cases hb : a ∈ tabs.map (·.2)
        · obtain ⟨_, _, ps, hP⟩ := grown a o hb q1
          exact absurd ha (readsW_apart hP rfl r3)
        · have e3 := (r5 q).2 a ha
          rw [show (ghostOf s₁.heap tabs).get? a = some o from ghost_ne q1 hb] at e3
          cases e3
    · rw [hr] at r4; cases r4
  · by_cases hb : b ∈ tabs.map (·.2)
    · obtain ⟨ht, rfl, ps, hP⟩ := grown b o hb e
      exact .inr (.inl ⟨ht, rfl, #[], ps, rfl, by rw [Array.empty_append]; exact hP⟩)
    · exact .inl (keep b o hb e)
  · by_cases hb : b ∈ tabs.map (·.2)
    · obtain ⟨_, _, ps, hP⟩ := grown b o hb e
      exact ⟨_, hP⟩
    · exact ⟨o, keep b o hb e⟩
end
end Mine

end
section
theorem Mine.resetH3 : True := by
  w_top off
  trivial
open PySem PySem.W PyProof.Rows PySem.Calls
set_option Elab.async false
set_option maxRecDepth 100000
set_option maxHeartbeats 2000000
set_option linter.unusedVariables false
namespace Mine
theorem fillH3 : (PySem.Challenge.rw_wf0014_01, hd.heap_39) = (PySem.Challenge.rw_wf0014_01, hd.heap_39) := by
  k_fill
  rfl
theorem lawM_0 {v : Value} : (fun y => if y = Str.ofString "script" then some v else (none : Option Value)) = lawM (some v) none none none none none none none none := by
  funext y
  by_cases h : y = Str.ofString "script"
  · subst h; rfl
  · simp only [lawM, if_neg h]
    (repeat' split) <;> rfl
theorem holds : PySem.Challenge.rw_wf0014_01.Holds := hd (by
  intro w s₀ s₁ mg mb G Y fa o pm cd doc dV kV ho hd hcd hD hmg hg args vals as hpre hlay hrd hwl hlo
  have KX := km_in_of Y
  km_tabs Y
  have X := (Ground.X G).1
  have V := (Ground.X G).2
  refine Ground.open G ?_
  intro T B D TE TW
  try (refine guard_noD D (by decide +kernel) ?_; clear D)
  km_lay T hmg ho hd cd
  clear hmg
  wrow_args hpre hlay hrd hwl hlo
  refine kn_postS hT9 (fun _ _ => rfl) ?_
  have he := Dflts.none hD rfl; subst he; have he := Dflts.noKw hD; subst he
  refine call_cellsS (by decide) ho (fd_plain hd) (Top.nolimit T) hcd rfl (kinds_of (by kinds_ok)) (by decide) fun h₁ tk₁ cells F N0 X0 => ?_
  cells_open X0
  clear hd
  kn_ghosts F T
  k_drop
  (with_reducible rename News _ _ _ _ => N')
  (with_reducible rename Fr _ _ _ _ => F')
  (with_reducible rename Below _ _ _ _ => K')
  (with_reducible rename Top _ _ _ _ _ _ => T')
  (with_reducible rename Frag.In _ _ => X')
  (with_reducible rename CodeHd _ _ _ => C')
  (with_reducible rename IntsAre _ _ => I')
  (with_reducible rename Heap.IsList _ _ _ => L')
  (rename _ = Data.cell _ => e1); revert e1
  (rename _ = Data.cell _ => e2); revert e2
  (rename _ = Data.cell _ => e3); revert e3
  (rename _ = Data.cell _ => e4); revert e4
  intro e4 e3 e2 e1
  refine law_all (A₀ := callerA) (L := s₁.heap.objs.size) (fa := fa) (ccd := cd) (s := { s₁ with heap := h₁, toks := tk₁ }) K' X' T' (by decide) (by decide) C' (by rw [← lawM_0]; exact F') N' (by assumption) (by first | exact e1.trans rfl | exact e2.trans rfl | exact e3.trans rfl | exact e4.trans rfl) (by first | exact e1.trans rfl | exact e2.trans rfl | exact e3.trans rfl | exact e4.trans rfl) (by first | exact e1.trans rfl | exact e2.trans rfl | exact e3.trans rfl | exact e4.trans rfl) (by first | exact e1.trans rfl | exact e2.trans rfl | exact e3.trans rfl | exact e4.trans rfl) L' I' (by assumption) ?_
  intro h' tk' m' ps F5 N5
  refine ⟨.bool true, rfl, ?_, ⟨⟨ps, (N5 _ (.head _)).1⟩, trivial⟩⟩
  exact goodW_reads (d := .bool true) (as := []) F5 hg (fun _ => rfl) (readsW_of_reads (d := .bool true) (Reads.bool true)) (fun _ => ⟨List.nodup_nil, fun _ h => nomatch h⟩) (postW_of (by wrow_shape) (by wtm_val) (by first | rfl | (str_meet; first | done | w_fin))))
end Mine

end
theorem PySem.Challenge.cw_wf0014_01_holds : PySem.Challenge.rw_wf0014_01.Holds := by
  exact Mine.holds
