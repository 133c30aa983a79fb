import PyProof.Rows.All
import Wide.All
import OpenK.AllK
import Wide.FinOn
import PySem.Challenge.RW_mj0138_01
set_option Elab.async false
section
open PySem PySem.W PyProof.Rows PySem.Calls PySem.Spec
open PySem.Sem (wp)
namespace Mine
/-- the claim's caller lies below -/
noncomputable def HasB (Γ : PySem.Ctx) : Prop := Γ.below.any (fun x => x.1.isCaller) = true
/-- the claim's caller lies below, or is at work itself -/
noncomputable def HasC (Γ : PySem.Ctx) : Prop := (Γ.code.isCaller || Γ.below.any (fun x => x.1.isCaller)) = true
theorem HasB.hasC {Γ : PySem.Ctx} (h : HasB Γ) : HasC Γ := by unfold HasC; rw [show Γ.below.any (fun x => x.1.isCaller) = true from h]; exact Bool.or_true _
theorem HasC.enter {Γ : PySem.Ctx} (h : HasC Γ) (c : Code) (hd : Option Value) (p : Pos) : HasB (Γ.enter c hd p) := by
  show ((Γ.code, p) :: Γ.below).any (fun x => x.1.isCaller) = true
  rw [List.any_cons]; exact h
theorem HasB.goto {Γ : PySem.Ctx} (h : HasB Γ) (c : Code) : HasB (Γ.goto c) := h
/-- wpAny over the stacks that bear the claim's caller -/
noncomputable def wpC {α : Type} (M : Model) (A : Around) (t : Sem α) (Q : α → Shared → Prop) (E : Value → Shared → Prop) (s : Shared) : Prop :=
  ∀ (Γ : PySem.Ctx) p, Γ.In A → HasC Γ → wp M Γ t (fun a _ s' => Q a s') (fun e _ s' => E e s') p s
noncomputable def codeC (M : Model) (A : Around) (c : Code) (R : Result → Shared → Prop) (s : Shared) : Prop :=
  ∀ (Γ : PySem.Ctx) p, Γ.code = c → Γ.Below A → HasB Γ → wpCode M Γ R p s
section
variable {α β : Type} {M : Model} {A : Around} {E : Value → Shared → Prop} {s : Shared}
theorem wpC_of_any {t : Sem α} {Q : α → Shared → Prop} (h : wpAny M A t Q E s) : wpC M A t Q E s := fun Γ p hΓ _ => h Γ p hΓ
theorem codeC_of_any {c : Code} {R : Result → Shared → Prop} (h : codeAny M A c R s) : codeC M A c R s := fun Γ p hc hΓ _ => h Γ p hc hΓ
theorem wpC_mono {t : Sem α} {Q Q' : α → Shared → Prop} {E' : Value → Shared → Prop} (h : wpC M A t Q E s)
    (hQ : ∀ a s, Q a s → Q' a s) (hE : ∀ e s, E e s → E' e s) : wpC M A t Q' E' s :=
  fun Γ p hΓ hC => Sem.wp_mono M Γ t (fun a _ s => hQ a s) (fun e _ s => hE e s) p s (h Γ p hΓ hC)
theorem wpC_pure {a : α} {Q : α → Shared → Prop} (h : Q a s) : wpC M A (pure a) Q E s := fun _ _ _ _ => h
theorem wpC_bind {m : Sem α} {f : α → Sem β} {Q : β → Shared → Prop} (h : wpC M A m (fun a s' => wpC M A (f a) Q E s') E s) :
    wpC M A (m >>= f) Q E s := fun Γ p hΓ hC => by
  rw [Sem.wp_bind']
  exact Sem.wp_mono M Γ m (fun a p' s' h' => h' Γ p' hΓ hC) (fun _ _ _ h' => h') p s (h Γ p hΓ hC)
/-- what comes first is met on every stack -/
theorem wpC_then {m : Sem α} {f : α → Sem β} {Q : β → Shared → Prop} (h : wpAny M A m (fun a s' => wpC M A (f a) Q E s') E s) :
    wpC M A (m >>= f) Q E s := wpC_bind (wpC_of_any h)
theorem wpC_holding {vs : List Value} {m : Sem α} {Q : α → Shared → Prop} (h : wpC M A m Q E s) : wpC M A (holding vs m) Q E s :=
  fun Γ p hΓ hC => by rw [Sem.wp_holding]; exact h Γ p hΓ hC
theorem wpC_keep {vs : List Value} {m : Sem α} {Q : α → Shared → Prop} (h : wpC M A m Q E s) : wpC M A (m.keep vs) Q E s :=
  fun Γ p hΓ hC => by rw [Sem.wp_keep]; exact h Γ p hΓ hC
theorem wpC_attempt {m : Sem α} {Q : Except Value α → Shared → Prop} (h : wpC M A m (fun a => Q (.ok a)) (fun e => Q (.error e)) s) :
    wpC M A m.attempt Q E s := fun Γ p hΓ hC => by rw [Sem.wp_attempt]; exact h Γ p hΓ hC
theorem wpC_onRaise {m : Sem α} {k : Value → Sem Unit} {Q : α → Shared → Prop}
    (h : wpC M A m Q (fun e s' => wpC M A (k e) (fun _ s'' => E e s'') E s') s) : wpC M A (m.onRaise k) Q E s := fun Γ p hΓ hC => by
  rw [Sem.wp_onRaise]
  exact Sem.wp_mono M Γ m (fun _ _ _ h' => h') (fun e p' s' h' => h' Γ p' hΓ hC) p s (h Γ p hΓ hC)
theorem wpC_run {c : Code} {h : Option Value} {Q : Flow → Shared → Prop}
    (hc : codeC M (A.mark h) c (fun r s' => match r with | .ok f => Q f s' | .error e => E e s') s) (hnb : h ≠ some byPass := by intro x; cases x) :
    wpC M A (run c h) Q E s :=
  fun Γ p hΓ hC => by rw [Sem.wp_run]; exact hc _ p rfl (hΓ.enter c h p hnb) (hC.enter c h p)
theorem wpC_runValue {c : Code} {Q : Value → Shared → Prop}
    (hc : codeC M A c (fun r s' => match r with | .ok (.ret v) => Q v s' | .ok _ => False | .error e => E e s') s) :
    wpC M A (runValue c) Q E s := fun Γ p hΓ hC => by rw [Sem.wp_runValue]; exact hc _ p rfl (hΓ.enter c none p (by intro x; cases x)) (hC.enter c none p)
theorem wpC_call {f : Value} {pos : List Value} {kw : List (Str × Value)} {Q : Value → Shared → Prop}
    (hc : codeC M A (.call f ⟨pos, kw⟩) (fun r s' => match r with | .ok (.ret v) => Q v s' | .ok _ => False | .error e => E e s') s) :
    wpC M A (call f pos kw) Q E s := wpC_runValue hc
theorem codeC_of_tree {c : Code} {R : Result → Shared → Prop}
    (h : wpC M (A.under c) (M.den c) (fun fin s' => match fin with | .done f => R (.ok f) s' | .again c' => c'.quiet = true ∧ codeC M A c' R s')
      (fun e s' => R (.error e) s') s) : codeC M A c R s := fun Γ p hc hΓ hB => by
  rw [wpCode_iff_wp, hc]
  refine Sem.wp_mono M Γ _ (fun fin p' s' h' => ?_) (fun _ _ _ h' => h') p s (h Γ p (hc ▸ hΓ.in) hB.hasC)
  cases fin with
  | done f => exact h'
  | again c' => exact ⟨h'.1, h'.2 (Γ.goto c') p' rfl (hΓ.goto c') (hB.goto c')⟩
/-- a loop: each turn lowers the measure -/
theorem codeC_loop {c : Code} {R : Result → Shared → Prop} (hq : c.quiet = true) (I : Nat → Shared → Prop)
    (turn : ∀ n s, I n s → wpC M (A.under c) (M.den c) (fun fin s' => match fin with | .done f => R (.ok f) s' | .again c' => (c' = c ∧ ∃ m, m < n ∧ I m s') ∨ (c'.quiet = true ∧ codeC M A c' R s')) (fun e s' => R (.error e) s') s)
    (n : Nat) (h : I n s) : codeC M A c R s := by
  induction n using Nat.strongRecOn generalizing s with
  | ind n ih =>
    refine codeC_of_tree (wpC_mono (turn n s h) (fun fin s' hf => ?_) fun _ _ x => x)
    cases fin with
    | done f => exact hf
    | again c' =>
      rcases hf with ⟨rfl, m, hm, hI⟩ | hf
      · exact ⟨hq, ih m hm hI⟩
      · exact hf
theorem wpC_mark {own : List String} {e : Value} {Q : Unit → Shared → Prop} (h : Q () s) : wpC M A (markTheRefusal own e) Q E s := fun Γ p hΓ hC => by
  unfold markTheRefusal
  rw [Sem.wp_bind']
  show wp M Γ (if pythonCodeMadeTheCall own (((Γ.code, p) :: Γ.below).map (·.1)) = true then _ else _) _ _ p s
  have e1 : pythonCodeMadeTheCall own (((Γ.code, p) :: Γ.below).map (·.1)) = false := by
    have this : ((((Γ.code, p) :: Γ.below).map (·.1)).any Code.isCaller) = true := by
      rw [List.any_map, List.any_cons]
      exact hC
    show (!((((Γ.code, p) :: Γ.below).map (·.1)).any Code.isCaller) && _ && _) = false
    rw [this]
    rfl
  rw [e1]
  exact h
end
section
variable {prog : Program} {w : World} {A : Around} {s : Shared} {R : Result → Shared → Prop}
theorem codeC_builtin {id : String} {args : Args} {b : Builtin} (hb : entryFor table id = some b)
    (h : wpC (model prog w) (A.under (.builtin id args)) (b args)
      (fun fin s' => match fin with | .done f => R (.ok f) s' | .again c' => c'.quiet = true ∧ codeC (model prog w) A c' R s') (fun e s' => R (.error e) s') s) :
    codeC (model prog w) A (.builtin id args) R s := by
  refine codeC_of_tree ?_
  show wpC _ _ (match entryFor table id with | some b => b args | none => unsupported ((withoutEnding? id "#data").getD id)) _ _ s
  rw [hb]; exact h
theorem codeC_call_builtin {id : String} {args : Args} (hq : (Code.builtin id args).quiet = true) (hcn : checkBuiltinCall id args = pure ())
    (h : codeC (model prog w) A (.builtin id args) R s) : codeC (model prog w) A (.call (.builtin id) args) R s := by
  refine codeC_of_tree ?_
  show wpC _ A.in1 (do checkBuiltinCall id args; again (.builtin id args)) _ _ s
  exact wpC_then (wpAny_of_eq hcn (wpC_pure (And.intro hq h)))
end
end Mine
end
section
open PySem PySem.W PyProof.Rows PySem.Calls
open PySem.Sem (wp)
namespace Mine
/-- does the stack bear the claim's caller? -/
noncomputable def seesCaller (st : List (Code × Pos)) : Bool := st.any (fun x => x.1.isCaller)
/-- a tree for the stacks that bear the caller, another one for the rest -/
noncomputable def guarded {α : Type} (t alt : Sem α) : Sem α := stack >>= fun st => if seesCaller st = true then t else alt
section
variable {α : Type} {M : Model} {A : Around} {E : Value → Shared → Prop} {s : Shared} {t alt : Sem α} {Q : α → Shared → Prop}
theorem wp_guarded_pos {Γ : PySem.Ctx} {p : Pos} (hC : HasC Γ) {P : α → Pos → Shared → Prop} {R : Value → Pos → Shared → Prop} : wp M Γ (guarded t alt) P R p s = wp M Γ t P R p s := by
  unfold guarded
  rw [Sem.wp_bind']
  show wp M Γ (if seesCaller ((Γ.code, p) :: Γ.below) = true then t else alt) _ _ p s = _
  rw [if_pos (by unfold seesCaller; rw [List.any_cons]; exact hC)]
theorem wp_guarded_neg {Γ : PySem.Ctx} {p : Pos} (hC : ¬ HasC Γ) {P : α → Pos → Shared → Prop} {R : Value → Pos → Shared → Prop} : wp M Γ (guarded t alt) P R p s = wp M Γ alt P R p s := by
  unfold guarded
  rw [Sem.wp_bind']
  show wp M Γ (if seesCaller ((Γ.code, p) :: Γ.below) = true then t else alt) _ _ p s = _
  rw [if_neg (by unfold seesCaller; rw [List.any_cons]; exact hC)]
theorem wpAny_guarded (h : wpC M A t Q E s) (h' : wpAny M A alt Q E s) : wpAny M A (guarded t alt) Q E s := fun Γ p hΓ => by
  by_cases hC : HasC Γ
  · rw [wp_guarded_pos hC]; exact h Γ p hΓ hC
  · rw [wp_guarded_neg hC]; exact h' Γ p hΓ
end
/-- the guard is one step of the claim's own thread -/
theorem sched_guarded {prog : Program} {w : World} {s : Shared} {t alt : Sem Fin} (hz : s.asleep) {n : Nat} {o : Outcome} {s' : Shared}
    (h : schedN (denote table) prog w n (.single s ⟨guarded t alt, .builtin "claim.caller" {}, default, []⟩) = .halted o s') :
    ∃ k, schedN (denote table) prog w k (.single s ⟨t, .builtin "claim.caller" {}, default, []⟩) = .halted o s' := by
  cases n with
  | zero => cases h
  | succ n =>
    have e : step (denote table) prog w s ⟨guarded t alt, .builtin "claim.caller" {}, default, []⟩ = .go s ⟨t, .builtin "claim.caller" {}, default, []⟩ := rfl
    rcases sstep_single (denote table) prog w s ⟨guarded t alt, .builtin "claim.caller" {}, default, []⟩ (by rfl) hz with h1 | h1
    · rw [e] at h1
      refine ⟨n, ?_⟩
      unfold schedN at h
      rw [h1] at h
      exact h
    · rw [e] at h1; cases h1
theorem callFrom_guarded {c : ClaimW} {t alt : List Value → Sem Fin} {w : World} {free : Addr → Prop} {gens : Prop} {kept : Heap → Prop} {s : Shared} (hz : s.asleep)
    (h : c.CallFrom (fun vs => ⟨guarded (t vs) (alt vs), .builtin "claim.caller" {}, default, []⟩) w free gens kept s) :
    c.CallFrom (fun vs => ⟨t vs, .builtin "claim.caller" {}, default, []⟩) w free gens kept s := by
  intro args hpre hlay ord hord
  obtain ⟨vs, s₁, hlaid, n, o, s', hs, rest⟩ := h args hpre hlay ord hord
  obtain ⟨k, hk⟩ := sched_guarded (Shared.asleep_of_life (layAllW_rest _ _ _ hlaid).2.2.2 hz) hs
  exact ⟨vs, s₁, hlaid, k, o, s', hk, rest⟩
theorem holdsOpenBy_guarded {c : ClaimW} {t alt : List Value → Sem Fin} {defs keeps : List Str} {writes : Bool}
    (h : c.HoldsOpenBy (fun vs => ⟨guarded (t vs) (alt vs), .builtin "claim.caller" {}, default, []⟩) defs keeps writes) :
    c.HoldsOpenBy (fun vs => ⟨t vs, .builtin "claim.caller" {}, default, []⟩) defs keeps writes := by
  obtain ⟨h1, h2, h3⟩ := h
  refine ⟨h1, h2, fun w => ⟨(h3 w).1, fun s hs => ?_⟩⟩
  obtain ⟨s₀, hf, hg, s₁, hT, hd, hr, hr', hC⟩ := (h3 w).2 s hs
  refine ⟨s₀, hf, hg, s₁, hT, hd, hr, hr', callFrom_guarded ?_ hC⟩
  have A : AfterImport (opening c.prog) w s := hs
  exact Shared.asleep_of_life (hT.2.1.trans (fence_lifeW hf)) A.life
/-- what is to be shown of a law's call: on the stacks that bear the caller; and that True is a good answer -/
noncomputable abbrev WalkC (q : Program) (loose : List Str) (XP : (Str → Option Value) → Heap → Prop) (YP : World → Heap → Prop) (r : RowW) (d : DefRec) (kwd : List (Str × PySem.Expr)) : Prop :=
  ∀ (w : World) (s₀ s₁ : Shared) (mg mb : Str → Option Value), Ground q loose r.records XP w s₀ mg mb s₁.heap → YP w s₁.heap → ∀ (a : Addr) (o : Obj) (pm cd doc dV kV : Value), s₁.heap.get? a = some o →
    o.data = .func { docDef d.name d.params d.body d.scope pm cd doc with defaults := dV, kwdefaults := kV } → s₁.heap.CodeRec cd d.name → Dflts mg s₁.heap d.params kwd dV kV → mg d.name = some (.ref a) → s₁.gens = #[] →
    ∀ (args : List WData) (vals : List Value) (as : List Addr), r.claim.pre args = true → WData.layableAll args = true → ReadsAllW r.records (classAt s₀.heap) s₁.heap vals args as → WellAll w.params s₁.heap vals args → (∀ a ∈ as, (a == sysModules) = false) →
      wpC (model r.prog w) callerA (PySem.call (.ref a) vals) (fun v s' => GoodWG r.claim (classAt s₀.heap) (ExcName.means s₀.heap) args s₁ (.ok (.ret v)) s')
        (fun e s' => GoodWG r.claim (classAt s₀.heap) (ExcName.means s₀.heap) args s₁ (.error e) s') s₁ ∧
      GoodWG r.claim (classAt s₀.heap) (ExcName.means s₀.heap) args s₁ (.ok (.ret (.bool true))) s₁
theorem PySem.W.holds_open {r : OpenRow} {q : Program} {loose : List Str} {Xt : Shared → Bool} {XP : (Str → Option Value) → Heap → Prop} {α : Type} {Yf : Shared → α} {Ya : World → α} {YP : World → Heap → Prop} {d : DefRec} {kwd : List (Str × PySem.Expr)} {N : Nat}
    (left : LeftO r.prog q loose Xt Yf Ya N) (hY : ∀ w s, Yf s = Ya w → YP w s.heap) (hYk : ∀ w h h', YP w h → (∀ b o, h.get? b = some o → h'.get? b = some o) → YP w h')
    (hX : ∀ s, Xt s = true → XP (s.heap.nsMap mainGlobals) s.heap) (hXk : ∀ mg h h', XP mg h → (∀ b o, h.get? b = some o → h'.get? b = some o) → XP mg h')
    (hdef : defOf q r.name = some (d, kwd)) (hp : r.prog.theDef r.name = some (d.params, d.body, d.scope)) (hk : kwWritten? d.params.kwonlyargs d.params.kw_defaults = some kwd) (hRf : ∀ s, Xt s = true → RecFacts r.records s.heap) (hwr : (!r.writes || r.records.isEmpty) = true)
    (k1 : r.wellSaid = true) (ok : (chainsOk q && opensWell r.prog && (frees r.toRowW && r.within.isEmpty)) = true) (hb : r.prog.bare) (hw : r.toRowW.promised)
    (call : WalkC q loose XP YP r.toRowW d kwd) : r.Holds := by
  refine ⟨k1, hw, ?_⟩
  refine holdsOpenBy_guarded (alt := fun _ => pure (.done (.ret (.bool true)))) (open_anyG (r := r.toRowW) (run := fun f vs => guarded (PySem.call f vs) (pure (.bool true))) (tree := fun vs => guarded (callStub r.name vs).cur (pure (.done (.ret (.bool true))))) left hY hYk hX hXk hRf hwr ok hb hw ?_ ?_ ?_)
  · intro vs w s mg f Q E hg hf h Γ p hΓ
    have h' := h Γ p hΓ
    by_cases hC : HasC Γ
    · rw [wp_guarded_pos hC] at h' ⊢
      show wp _ Γ (nsGet mainGlobals r.name >>= _) _ _ p s
      rw [Sem.wp_bind', Sem.wp_nsGet _ Γ _ p s hg, hf]
      show wp _ Γ (PySem.call f vs >>= _) _ _ p s
      rw [Sem.wp_bind']
      exact h'
    · rw [wp_guarded_neg hC] at h' ⊢
      exact h'
  · intro w s hg G n hn
    obtain rfl : n = r.name := by split at hn <;> simp_all
    exact pinned_of_view hg G hdef hp hk
  · intro w s₀ s₁ mg mb G Y args vs as hpre hlay L low
    obtain ⟨a, o, pm, cd, doc, dV, kV, h1, h2, h3, h4, h5⟩ := G.fn hdef
    obtain ⟨c1, c2⟩ := call w s₀ s₁ mg mb G Y a o pm cd doc dV kV h2 h3 h4 h5 (defOf_name hdef ▸ h1) L.gens args vs as hpre hlay L.reads L.well (L.low low)
    exact ⟨.ref a, h1, wpAny_guarded c1 (wpAny_pure c2)⟩
end Mine
end
section
open PySem PySem.W PyProof.Rows
namespace Mine
set_option maxRecDepth 100000 in
set_option maxHeartbeats 8000000 in
open_top hd for PySem.Challenge.rw_mj0138_01
end Mine
end
section
open PySem PySem.W PyProof.Rows PySem.Calls PySem.Spec
namespace Mine
noncomputable abbrev PP : Program := PySem.Challenge.pw_mj0138_01
/-- the names that the law's text binds -/
noncomputable abbrev LO : List Str := [Str.ofString "system_alias", Str.ofString "_platform", Str.ofString "parse_keqv_list", Str.ofString "parse_http_list", Str.ofString "_law_figures", Str.ofString "_law_release", Str.ofString "_law_alias", Str.ofString "_law_written", Str.ofString "_law_said", Str.ofString "_law_fold", Str.ofString "_law_machine", Str.ofString "law", Str.ofString "__name__"]
noncomputable abbrev S (x : String) : Str := Str.ofString x
noncomputable abbrev tupO (vs : Array Value) (n : Nat) : Obj := { cls := .type "tuple", data := .seq vs n }
/-- the machine's frame as it stands at each of its calls -/
noncomputable abbrev A2 (cn : Str) (cs : Scope) (L a : Addr) (ccd : Value) (cl : List (Str × Addr)) (outer : List Env) : Around := ktrTop 303 10 (some []) cn cs L a ccd cl outer
/-- a call's claim: over any frame at that depth -/
noncomputable abbrev Ct (w : World) (f : Addr) (vs : List Value) (Pre : List (Addr × Obj) → Prop)
    (Ret : (Value → Shared → Prop) → Heap → Addr → (Str → Option Value) → List (Addr × Obj) → Shared → Prop) : Prop :=
  ∀ (mean : ExcName → Option Value) (mg mb : Str → Option Value) (cn : Str) (cs : Scope) (a : Addr) (ccd : Value) (cl : List (Str × Addr)) (outer : List Env) (A₀ : Around) (base h₀ : Heap) (L : Addr) (m : Str → Option Value) (news : List (Addr × Obj)) (s : Shared) (Q E : Value → Shared → Prop),
    Below A₀ base outer h₀ → Fr h₀ L s.heap m → (hd.heap_39 w.params).In h₀ → News h₀ L s.heap news → Top topProg LO mean mg mb h₀ → cs.kind = .function → Pre news →
    Ret Q h₀ L m news s → wpAny (model PP w) (A2 cn cs L a ccd cl outer) (call (.ref f) vs) Q E s
/-- a text comes back, no object with it -/
noncomputable abbrev RetS (x : Str) : (Value → Shared → Prop) → Heap → Addr → (Str → Option Value) → List (Addr × Obj) → Shared → Prop := fun Q h₀ L m news s =>
  ∀ (t : Tok) (h' : Heap) (tk' : Nat), Fr h₀ L h' m → News h₀ L h' news → Q (.str x t) { s with heap := h', toks := tk' }
/-- three texts in a tuple come back -/
noncomputable abbrev RetT (x : Str × Str × Str) : (Value → Shared → Prop) → Heap → Addr → (Str → Option Value) → List (Addr × Obj) → Shared → Prop := fun Q h₀ L m news s =>
  ∀ (D : Addr) (t1 t2 t3 : Tok) (n : Nat) (h' : Heap) (tk' : Nat), Fr h₀ L h' m → News h₀ L h' ((D, tupO #[.str x.1 t1, .str x.2.1 t2, .str x.2.2 t3] n) :: news) → (∀ p ∈ news, p.1 < D) →
    Q (.ref D) { s with heap := h', toks := tk' }
/-- texts in a list come back -/
noncomputable abbrev RetL (xs : List Str) : (Value → Shared → Prop) → Heap → Addr → (Str → Option Value) → List (Addr × Obj) → Shared → Prop := fun Q h₀ L m news s =>
  ∀ (D : Addr) (us : List Value) (n : Nat) (h' : Heap) (tk' : Nat), StrsAre us xs → Fr h₀ L h' m → News h₀ L h' ((D, listOf us.toArray n) :: news) →
    Q (.ref D) { s with heap := h', toks := tk' }
/-- None or a text -/
noncomputable def mvV : Option Str → Tok → Value
  | none, _ => .none
  | some x, t => .str x t
end Mine
namespace Mine
section
variable {h₀ h' : Heap} {L : Addr} {m : Str → Option Value} {news : List (Addr × Obj)} {s : Shared} {Q : Value → Shared → Prop} {t : Tok} {tk' : Nat}
theorem endS {x y : Str} {news' : List (Addr × Obj)} (hret : RetS x Q h₀ L m news s) (e : x = y) (F : Fr h₀ L h' m) (N : News h₀ L h' news') (hs : ∀ p ∈ news, p ∈ news') : Q (.str y t) { s with heap := h', toks := tk' } := by
  subst e
  exact hret t h' tk' F fun p hp => N p (hs p hp)
theorem endT {x : Str × Str × Str} {p q r : Str} {D : Addr} {t1 t2 t3 : Tok} {n : Nat} (hret : RetT x Q h₀ L m news s) (e : x = (p, q, r)) (F : Fr h₀ L h' m) (N : News h₀ L h' ((D, tupO #[.str p t1, .str q t2, .str r t3] n) :: news)) (l : ∀ p ∈ news, p.1 < D) :
    Q (.ref D) { s with heap := h', toks := tk' } := by
  subst e
  exact hret D t1 t2 t3 n h' tk' F N l
end
end Mine
namespace Mine
/-- the state as it stands behind a statement that keeps names and objects -/
noncomputable abbrev Same (g : Heap) (L : Addr) (m : Str → Option Value) (news : List (Addr × Obj)) (s s' : Shared) : Prop :=
  ∃ (h : Heap) (tk : Nat), s' = { s with heap := h, toks := tk } ∧ Fr g L h m ∧ News g L h news
theorem execs_cut {w : World} {A : Around} {env : Env} {st : Stmt} {rest : List Stmt} {g : Heap} {L : Addr} {m : Str → Option Value} {news : List (Addr × Obj)} {s : Shared} {Q : Flow → Shared → Prop} {E : Value → Shared → Prop} (P : Prop)
    (_F : Fr g L s.heap m) (_N : News g L s.heap news)
    (H : P → ∀ h tk, Fr g L h m → News g L h news → wpAny (model PP w) A (execs rest env) Q E { s with heap := h, toks := tk })
    (h1 : wpAny (model PP w) A (exec st env) (fun f s' => match f with | .next => P ∧ Same g L m news s s' | f => Q f s') E s) :
    wpAny (model PP w) A (execs (st :: rest) env) Q E s :=
  wpAny_execs_cons (wpAny_mono h1 (fun f s' h => by
    cases f with
    | next => obtain ⟨hP, h, tk, rfl, F, N⟩ := h; exact H hP h tk F N
    | _ => exact h) fun _ _ h => h)
end Mine
namespace Mine
theorem append_head {w : World} {A : Around} {g : Heap} {L : Addr} {m : Str → Option Value} {s : Shared} {E : Value → Shared → Prop} {l : Addr} {us : List Value} {cnt : Nat} {rest : List (Addr × Obj)} {x : Value} {Q : Value → Shared → Prop}
    (F : Fr g L s.heap m) (N : News g L s.heap ((l, listOf us.toArray cnt) :: rest)) (hne : ∀ p ∈ rest, p.1 ≠ l) (hsz : us.length ≤ sizeLine)
    (h : ∀ h', Fr g L h' m → News g L h' ((l, listOf (us ++ [x]).toArray (cnt + 1)) :: rest) → Q .none { s with heap := h' }) :
    wpAny (model PP w) A (call (.builtin "list.append") [.ref l, x]) Q E s :=
  append_K F N (Upd.head hne) (fun h' F' N' => h h' F' (by simpa using N')) (by simpa using hsz)
end Mine
namespace Mine
theorem endL {h₀ h' : Heap} {L : Addr} {m : Str → Option Value} {news more : List (Addr × Obj)} {s : Shared} {Q : Value → Shared → Prop} {tk' : Nat} {xs ws : List Str} {f : Str → Str} {ys : List Value} {D : Addr} {n : Nat}
    (hret : RetL xs Q h₀ L m news s) (C : CarriedAll ys (ws.map fun a => PyData.str (f a))) (e : xs = ws.map f) (F : Fr h₀ L h' m) (N : News h₀ L h' ((D, listOf ys.toArray n) :: more)) (hs : ∀ p ∈ news, p ∈ more) :
    Q (.ref D) { s with heap := h', toks := tk' } := by
  subst e
  refine hret D ys n h' tk' C.strsOf F fun p hp => ?_
  rcases List.mem_cons.mp hp with rfl | hp
  · exact N _ (.head _)
  · exact N _ (.tail _ (hs _ hp))
end Mine
namespace Mine
theorem split_count (x y : Str) : (Txt.split x y).length ≤ x.length + 2 := by
  unfold Txt.split
  split
  · show 1 ≤ _; omega
  · split
    · show 1 ≤ _; omega
    · rw [length_partsBetween]
      have := StrLaws.occ_length_le x y 0 x.length (x.length + 1)
      omega
theorem sum_le {B : Nat} : ∀ (l : List Str), (∀ a ∈ l, a.length ≤ B) → (l.map (·.length)).sum ≤ l.length * B
  | [], _ => Nat.zero_le _
  | a :: r, h => by
    have h1 := h a (.head _)
    have h2 := sum_le r fun b hb => h b (.tail _ hb)
    rw [List.map_cons, List.sum_cons, List.length_cons, Nat.succ_mul]
    omega
end Mine
namespace Mine
/-- a text comes back, no object with it, and all that stood still stands -/
noncomputable abbrev RetSK (x : Str) : (Value → Shared → Prop) → Heap → Addr → (Str → Option Value) → List (Addr × Obj) → Shared → Prop := fun Q h₀ L m news s =>
  ∀ (t : Tok) (h' : Heap) (tk' : Nat), InElt s.heap h' → Fr h₀ L h' m → News h₀ L h' news → Q (.str x t) { s with heap := h', toks := tk' }
theorem endSK {h₀ h' g' : Heap} {L L' : Addr} {m m' : Str → Option Value} {news news' news'' : List (Addr × Obj)} {s : Shared} {Q : Value → Shared → Prop} {t : Tok} {tk' : Nat} {x y : Str} (hret : RetSK x Q h₀ L m news s) (e : x = y) (G : GSub s.heap g' (news.map (·.1))) (N0 : News h₀ L s.heap news) (F1 : Fr g' L' h' m') (N1 : News g' L' h' news'') (hs1 : ∀ p ∈ news, p ∈ news'') (F : Fr h₀ L h' m) (N : News h₀ L h' news') (hs : ∀ p ∈ news, p ∈ news') : Q (.str y t) { s with heap := h', toks := tk' } := by
  subst e
  exact hret t h' tk' (elt_after (InElt.start _) G N0 F1 N1 hs1) F fun p hp => N p (hs p hp)
end Mine
namespace Mine
theorem all_neQ {d c : Nat} {l : List (Addr × Obj)} (h : AllLt d l) (hd : d ≤ c) : ∀ p ∈ l, p.1 ≠ c := fun p hp => by
  induction l with
  | nil => exact nomatch hp
  | cons q r ih =>
    rcases List.mem_cons.mp hp with rfl | hp
    · exact Nat.ne_of_lt (Nat.lt_of_lt_of_le h.1 hd)
    · exact ih h.2 hp
end Mine
end
section
open PySem PySem.W PyProof.Rows PySem.Calls PySem.Spec
namespace Mine
local macro_rules | `(tactic| k_all) => `(tactic| exact all_neQ (by assumption) (by omega))
section
open PySem PySem.W PyProof.Rows PySem.Calls PySem.Spec
local macro_rules | `(tactic| walk_at "exec For Name Call cons nil") => `(tactic| (k_here; (rename Fr _ _ _ _ => lF'); (with_unfolding_all refine' For_invVF lF' ?k1 ?k2 ?_; (case k1 => exact rfl); (case k2 => exact rfl); k_whole)))
local macro_rules | `(tactic| walk_at "exec For Name Name cons nil") => `(tactic| (k_here; (rename Fr _ _ _ _ => lF'); (with_unfolding_all refine' For_invVF lF' ?k1 ?k2 ?_; (case k1 => exact rfl); (case k2 => exact rfl); k_whole)))
noncomputable abbrev HSt := List Str × Str × Bool × Bool
noncomputable def hstep (c : HSt) (n : Int) : HSt :=
  let x : Str := ⟨#[n.toNat]⟩
  if c.2.2.1 = true then (c.1, c.2.1 ++ x, false, c.2.2.2)
  else if c.2.2.2 = true then
    if (x == Str.ofString "\\") = true then (c.1, c.2.1, true, true)
    else if (x == Str.ofString "\"") = true then (c.1, c.2.1 ++ x, false, false) else (c.1, c.2.1 ++ x, false, true)
  else if (x == Str.ofString ",") = true then (c.1 ++ [c.2.1], Str.ofString "", false, false)
  else if (x == Str.ofString "\"") = true then (c.1, c.2.1 ++ x, false, true) else (c.1, c.2.1 ++ x, false, false)
noncomputable def hrun (l : List Int) : HSt := l.foldl hstep ([], Str.ofString "", false, false)
noncomputable def hend (c : HSt) : List Str := ((if (c.2.1 == Str.ofString "") = true then c.1 else c.1 ++ [c.2.1])).map Txt.strip
noncomputable def HInv (pre : List Int) (res : List Str) (part : Str) (e q : Bool) : Prop :=
  (res, part, e, q) = hrun pre ∧ part.length ≤ pre.length ∧ res.length ≤ pre.length ∧ ∀ x ∈ res, x.length ≤ pre.length
theorem hstep_fit (c : HSt) (n : Int) : (hstep c n).2.1.length ≤ c.2.1.length + 1 ∧ (hstep c n).1.length ≤ c.1.length + 1 ∧ ∀ x ∈ (hstep c n).1, x ∈ c.1 ∨ x = c.2.1 := by
  unfold hstep
  have z : (Str.ofString "").length = 0 := rfl
  have o : (⟨#[n.toNat]⟩ : Str).length = 1 := rfl
  dsimp only
  split
  · exact ⟨by dsimp only; rw [Str.length_append, o]; exact Nat.le_refl _, by dsimp only; omega, fun x hx => .inl hx⟩
  · split
    · split
      · exact ⟨by dsimp only; omega, by dsimp only; omega, fun x hx => .inl hx⟩
      · split
        · exact ⟨by dsimp only; rw [Str.length_append, o]; exact Nat.le_refl _, by dsimp only; omega, fun x hx => .inl hx⟩
        · exact ⟨by dsimp only; rw [Str.length_append, o]; exact Nat.le_refl _, by dsimp only; omega, fun x hx => .inl hx⟩
    · split
      · refine ⟨by dsimp only; omega, by dsimp only; rw [List.length_append]; exact Nat.le_refl _, fun x hx => ?_⟩
        rcases List.mem_append.mp hx with h | h
        · exact .inl h
        · exact .inr (List.mem_singleton.mp h)
      · split
        · exact ⟨by dsimp only; rw [Str.length_append, o]; exact Nat.le_refl _, by dsimp only; omega, fun x hx => .inl hx⟩
        · exact ⟨by dsimp only; rw [Str.length_append, o]; exact Nat.le_refl _, by dsimp only; omega, fun x hx => .inl hx⟩
theorem h_start : HInv [] [] (Str.ofString "") false false ∧ (Str.ofString "").length ≤ ([] : List Int).length ∧ ([] : List Str).length ≤ ([] : List Int).length :=
  ⟨⟨rfl, Nat.le_refl _, Nat.le_refl _, fun _ h => nomatch h⟩, Nat.le_refl _, Nat.le_refl _⟩
theorem h_turn {pre : List Int} {n : Nat} {res res' : List Str} {part part' : Str} {e e' q q' : Bool} (h : HInv pre res part e q) (z : (res', part', e', q') = hstep (res, part, e, q) (n : Int)) :
    HInv (pre ++ [(n : Int)]) res' part' e' q' ∧ part'.length ≤ (pre ++ [(n : Int)]).length ∧ res'.length ≤ (pre ++ [(n : Int)]).length := by
  obtain ⟨h1, h2, h3, h4⟩ := h
  have f := hstep_fit (res, part, e, q) (n : Int)
  rw [← z] at f
  dsimp only at f
  have l : (pre ++ [(n : Int)]).length = pre.length + 1 := by rw [List.length_append]; rfl
  rw [l]
  have b2 : part'.length ≤ pre.length + 1 := by omega
  have b3 : res'.length ≤ pre.length + 1 := by omega
  refine ⟨⟨?_, by rw [l]; exact b2, by rw [l]; exact b3, fun x hx => ?_⟩, b2, b3⟩
  · rw [z, h1]; unfold hrun; rw [List.foldl_append]; rfl
  · rw [l]
    rcases f.2.2 x hx with hh | hh
    · have := h4 x hh; omega
    · rw [hh]; omega
theorem hend_none {c : List Int} {ws : List Str} {part : Str} {e q : Bool} (h : HInv c ws part e q) (z : ((part.length : Nat) : Int) = 0) : hend (hrun c) = ws.map Txt.strip := by
  rw [← h.1]
  have : part = Str.ofString "" := by
    obtain ⟨⟨l⟩⟩ := part
    have : l.length = 0 := by simpa [Str.length] using z
    rw [List.length_eq_zero_iff.mp this]; rfl
  subst this
  rfl
theorem hend_some {c : List Int} {ws : List Str} {part : Str} {e q : Bool} (h : HInv c ws part e q) (z : ((part.length : Nat) : Int) ≠ 0) : hend (hrun c) = (ws ++ [part]).map Txt.strip := by
  rw [← h.1]
  have : ¬ (part == Str.ofString "") = true := fun y => by
    rw [beq_iff_eq] at y
    subst y
    exact z rfl
  unfold hend
  dsimp only
  rw [if_neg this]
noncomputable abbrev HC := (List Value × List Str × Nat) × (Str × Tok) × Bool × Bool
local macro_rules | `(tactic| kst_facts) => `(tactic| first | assumption | exact PyProof.Rows.StrsAre.append' (by assumption) (.cons _ _ .nil))
set_option maxRecDepth 100000 in
set_option maxHeartbeats 2000000 in
theorem ct_http (w : World) (x : Str) (t1 : Tok) (hx : x.length ≤ 10000) :
    Ct w 40 [Value.str x t1] (fun _ => True) (RetL (hend (hrun (KStt.codes x)))) := by
  (w_top off; k_with_none; (have hz9 : PySem.Challenge.rw_mj0138_01 = PySem.Challenge.rw_mj0138_01 ∧ hd.heap_39 = hd.heap_39 := by (k_fill; exact ⟨rfl, rfl⟩)); clear hz9)
  intro mean mg mb cn cs a ccd cl outer A₀ base h₀ L m news s Q E kB kF0 kX kN0 kT kK kPre hret
  refine wpAny_call ?_
  refine' code_def (binds := [(Str.ofString "s", Value.str x t1)]) ?k1 ?k2 ?k3 ?k4 ?k5 ?kA ?kF ?kK ?k6 ?k7 ?k8 ?k9 ?kB ?_ ?c2 ?c3 ?c4 ?c5
  ((case kA => exact rfl); (case kF => exact rfl); (case kK => assumption); (case k1 => k_asm); (case k2 => k_asm); (case k3 => k_asm); (case k4 => k_asm); (case k5 => k_asm); (case k6 => k_is); (case k7 => k_is); (case k8 => k_room); (case k9 => exact BindsTo.of_eq rfl); (case c5 => decide); (case kB => exact locs rfl); (case c2 => exact rfl); (case c3 => exact rfl); (case c4 => exact rfl))
  k_whole; intro g' L' h' FG' F' N' B' X' T'; (try dsimp only); (try k_lift B'); (try k_fold)
  k_with "state" => first | exact h_start | (refine h_turn (by assumption) ?_; simp [hstep, *]; done) | (refine h_turn (by assumption) ?_; simp_all [hstep]; done)
  w_on
  k_with "pyIter str" => fail
  (repeat' (first | (k_unfold; (try dsimp only)) | ((fail_if_success (with_reducible show wpAny _ _ (pyIter _) _ _ _)); first | walk1 | (dsimp only; walk1)) | fail "no step"))
  rename Fr _ _ _ _ => F1
  rename News _ _ _ _ => N1
  refine' KStt.kst_text (σ := HC) (fun c => (_, listOf c.1.1.toArray c.1.2.2) :: news) (fun c => [(Str.ofString "part", .str c.2.1.1 c.2.1.2), (Str.ofString "escape", .bool c.2.2.1), (Str.ofString "quote", .bool c.2.2.2)]) (fun c => StrsAre c.1.1 c.1.2.1) [] (fun pre c => HInv pre c.1.2.1 c.2.1.1 c.2.2.1 c.2.2.2 ∧ c.2.1.1.length ≤ pre.length ∧ c.1.2.1.length ≤ pre.length) (([], [], 0), (Str.ofString "", _), false, false) rfl F1 ?kn ?kf ?kk ?kp ?turn ?done
  case kn => exact N1
  case kf => exact .nil
  case kp => exact h_start
  case kk => (refine List.forall_mem_cons.mpr ⟨?_, List.forall_mem_cons.mpr ⟨?_, List.forall_mem_cons.mpr ⟨?_, List.forall_mem_nil _⟩⟩⟩); (with_unfolding_all rfl); (with_unfolding_all rfl); (with_unfolding_all rfl)
  case turn =>
    clear F1 N1
    rintro ⟨⟨us, ws, cnt⟩, ⟨part, tp⟩, e, q⟩ pre post n t u h tk9 own hE hO hS ⟨hI, hp1, hp2⟩ F1 N1
    have hL : x.length = pre.length + (post.length + 1) := by
      have := congrArg List.length hE
      simpa [KStt.codes_length] using this
    simp only [List.map_cons] at hO
    rename (∀ p ∈ news, p.1 < _) => l1
    have hNe : ∀ p ∈ news ++ own, p.1 ≠ _ := fun p hp => (List.mem_append.mp hp).elim (fun h => Nat.ne_of_lt (l1 p h)) (fun h => hO p h _ (.head _))
    have kMark : KstMark := kstMark
    dsimp only [kstB] at *
    have hSz : us.length ≤ sizeLine := by have := hS.length; rw [sizeLine_eq]; omega
    try k_fold
    (repeat' (first | (k_unfold; (try dsimp only)) | walk1 | (dsimp only; walk1) | fail "no step"))
    all_goals try
       (refine' kst_end (((us, ws, cnt), (_, _), _, _) : HC) (by assumption) (by assumption) ?hn ?ho rfl ?hf ?hk ?hr ?hp
        case hk => kst_all1
        case hn => exact fun p hp => List.mem_append.mpr (.inl hp)
        case ho => exact fun p hp => List.mem_append.mpr (.inr hp)
        case hf => exact hS
        case hr => kst_same
        case hp => exact h_turn hI (by simp [hstep, *]))
    refine' append_head (rest := news ++ own) (by assumption) N1 hNe hSz ?_
    intro h2 F2 N2
    clear F1 N1
    dsimp only
    (repeat' (first | (k_unfold; (try dsimp only)) | walk1 | (dsimp only; walk1) | fail "no step"))
    refine' kst_end (((us ++ [.str part tp], ws ++ [part], cnt + 1), (_, _), _, _) : HC) (by assumption) (by assumption) ?hn ?ho ?ha ?hf ?hk ?hr ?hp
    case hk => kst_all1
    case hn => exact fun p hp => List.mem_append.mpr (.inl hp)
    case ho => exact fun p hp => List.Mem.tail _ (List.mem_append.mpr (.inr hp))
    case ha => rfl
    case hf => exact StrsAre.append' hS (.cons _ _ .nil)
    case hr => kst_same
    case hp => exact h_turn hI (by simp [hstep, *]; rfl)
  case done =>
    clear F1 N1
    rintro ⟨⟨us, ws, cnt⟩, ⟨part, tp⟩, e, q⟩ u h tk9 hS ⟨hI, hp1, hp2⟩ F1 N1
    dsimp only [kstB] at *
    rw [KStt.codes_length] at hp1 hp2
    try k_fold
    rename (∀ p ∈ news, p.1 < _) => l1
    have hSz : us.length ≤ sizeLine := by have := hS.length; rw [sizeLine_eq]; omega
    have hAll : ∀ y ∈ ws, y.length ≤ 10000 := fun y hy => by
      have := hI.2.2.2 y hy
      rw [KStt.codes_length] at this
      omega
    have hW : ws.length ≤ 10000 := by omega
    refine wpAny_execs_cons ?_
    (repeat' (first | (k_unfold; (try dsimp only)) | walk1 | (dsimp only; walk1) | fail "no step"))
    · refine' append_head (rest := news) (by assumption) N1 (fun p hp => Nat.ne_of_lt (l1 p hp)) hSz ?_
      intro h2 F2 N2
      clear F1 N1
      dsimp only
      have hS2 : StrsAre (us ++ [.str part tp]) (ws ++ [part]) := StrsAre.append' hS (.cons _ _ .nil)
      have hAll2 : ∀ y ∈ ws ++ [part], y.length ≤ 10000 := fun y hy => (List.mem_append.mp hy).elim (hAll y) fun h => by rw [List.mem_singleton.mp h]; omega
      have hW2 : (ws ++ [part]).length ≤ 10001 := by rw [List.length_append]; show ws.length + 1 ≤ 10001; omega
      clear hAll hW
      (repeat' (first | (k_unfold; (try dsimp only)) | walk1 | (dsimp only; walk1) | fail "no step"))
      refine' endL hret (by assumption) (hend_some hI (by assumption)) ?f ?n ?l
      case f => assumption
      case n => assumption
      case l => exact fun p hp => .tail _ hp
    refine' endL hret (by assumption) (hend_none hI (by assumption)) ?f ?n ?l
    case f => assumption
    case n => assumption
    case l => exact fun p hp => .tail _ hp
end
section
open PySem PySem.W PyProof.Rows PySem.Calls PySem.Spec
local macro_rules | `(tactic| walk_at "exec For Name Call cons nil") => `(tactic| (k_here; (rename Fr _ _ _ _ => lF'); (with_unfolding_all refine' For_invVF lF' ?k1 ?k2 ?_; (case k1 => exact rfl); (case k2 => exact rfl); k_whole)))
local macro_rules | `(tactic| walk_at "exec For Name Name cons nil") => `(tactic| (k_here; (rename Fr _ _ _ _ => lF'); (with_unfolding_all refine' For_invVF lF' ?k1 ?k2 ?_; (case k1 => exact rfl); (case k2 => exact rfl); k_whole)))
noncomputable def escOne (way : Int) (c : Nat) : List Nat := if way = 1 ∨ c = 34 ∨ c = 92 then [92, c] else [c]
noncomputable def escI (way : Int) (l : List Int) : Str := ⟨(l.flatMap fun n => escOne way n.toNat).toArray⟩
theorem one_eq (n c : Nat) : ((⟨#[n]⟩ : Str) == ⟨#[c]⟩) = (n == c) := by
  rw [Bool.eq_iff_iff, beq_iff_eq, beq_iff_eq]
  constructor
  · intro h; injection h with h; simpa using h
  · intro h; rw [h]
theorem esc_snoc (way : Int) (pre : List Int) (n : Nat) : escI way (pre ++ [(n : Int)]) = escI way pre ++ ⟨(escOne way n).toArray⟩ := by
  refine Str.ext' (Array.toList_inj.mp ?_)
  rw [Str.cps_append, Array.toList_append]
  simp [escI]
theorem app_assoc (a b c : Str) : a ++ b ++ c = a ++ (b ++ c) := Str.append_assoc a b c
theorem esc_start (way : Int) : Str.ofString "" = escI way [] ∧ (Str.ofString "").length ≤ 2 * ([] : List Int).length := by
  constructor
  · rfl
  · decide
theorem esc_one {way : Int} {pre : List Int} {x : Str} {n : Nat} (h : x = escI way pre) (hl : x.length ≤ 2 * pre.length) (h1 : way ≠ 1) (h2 : ((⟨#[n]⟩ : Str) == Str.ofString "\"") = false) (h3 : ((⟨#[n]⟩ : Str) == Str.ofString "\\") = false) :
    x ++ ⟨#[n]⟩ = escI way (pre ++ [(n : Int)]) ∧ (x ++ ⟨#[n]⟩ : Str).length ≤ 2 * (pre ++ [(n : Int)]).length := by
  have h2' : (n == 34) = false := by rw [← one_eq]; exact h2
  have h3' : (n == 92) = false := by rw [← one_eq]; exact h3
  have e : escOne way n = [n] := if_neg fun h => by
    rcases h with h | h | h
    · exact h1 h
    · subst h; cases h2'
    · subst h; cases h3'
  refine ⟨by rw [esc_snoc, e, h], ?_⟩
  rw [Str.length_append, List.length_append]
  show x.length + 1 ≤ 2 * (pre.length + 1)
  omega
theorem esc_two {way : Int} {pre : List Int} {x : Str} {n : Nat} (h : x = escI way pre) (hl : x.length ≤ 2 * pre.length) (h1 : way = 1 ∨ ((⟨#[n]⟩ : Str) == Str.ofString "\"") = true ∨ ((⟨#[n]⟩ : Str) == Str.ofString "\\") = true) :
    x ++ Str.ofString "\\" ++ ⟨#[n]⟩ = escI way (pre ++ [(n : Int)]) ∧ (x ++ Str.ofString "\\" ++ ⟨#[n]⟩ : Str).length ≤ 2 * (pre ++ [(n : Int)]).length := by
  have h1' : way = 1 ∨ n = 34 ∨ n = 92 := by
    rcases h1 with h | h | h
    · exact .inl h
    · exact .inr (.inl (by have : (n == 34) = true := (by rw [← one_eq]; exact h); simpa using this))
    · exact .inr (.inr (by have : (n == 92) = true := (by rw [← one_eq]; exact h); simpa using this))
  have e : escOne way n = [92, n] := if_pos h1'
  refine ⟨by rw [esc_snoc, e, h, app_assoc]; rfl, ?_⟩
  rw [Str.length_append, Str.length_append, List.length_append]
  show x.length + 1 + 1 ≤ 2 * (pre.length + 1)
  omega
noncomputable def wr (k v : Str) (way : Int) : Str :=
  if way = 2 ∧ (v != Str.ofString "") = true ∧ (v == Txt.strip v) = true ∧ (Builtin.Str.occurrences v (Str.ofString "\"") 0 v.length 1).isEmpty = true then k ++ Str.ofString "=" ++ v
  else k ++ Str.ofString "=\"" ++ escI way (KStt.codes v) ++ Str.ofString "\""
theorem wr_no {k v x : Str} {way : Int} (hc : ¬ (way = 2 ∧ (v != Str.ofString "") = true ∧ (v == Txt.strip v) = true ∧ (Builtin.Str.occurrences v (Str.ofString "\"") 0 v.length 1).isEmpty = true)) (h : x = escI way (KStt.codes v)) :
    wr k v way = k ++ Str.ofString "=\"" ++ x ++ Str.ofString "\"" := by
  subst h
  exact if_neg hc
set_option maxRecDepth 100000 in
set_option maxHeartbeats 2000000 in
theorem ct_written (w : World) (k v : Str) (way : Int) (t1 t2 t3 : Tok) (hk : k.length ≤ 100) (hv : v.length ≤ 1000) :
    Ct w 68 [Value.str k t1, Value.str v t2, Value.int way t3] (fun _ => True) (RetSK (wr k v way)) := by
  (w_top off; k_with_none; (have hz9 : PySem.Challenge.rw_mj0138_01 = PySem.Challenge.rw_mj0138_01 ∧ hd.heap_39 = hd.heap_39 := by (k_fill; exact ⟨rfl, rfl⟩)); clear hz9)
  intro mean mg mb cn cs a ccd cl outer A₀ base h₀ L m news s Q E kB kF0 kX kN0 kT kK kPre hret
  refine wpAny_call ?_
  refine' code_defG (binds := [(Str.ofString "key", Value.str k t1), (Str.ofString "value", Value.str v t2), (Str.ofString "way", Value.int way t3)]) ?k1 ?k2 ?k3 ?k4 ?k5 ?kA ?kF ?kK ?k6 ?k7 ?k8 ?k9 ?kB ?_ ?c2 ?c3 ?c4 ?c5
  ((case kA => exact rfl); (case kF => exact rfl); (case kK => assumption); (case k1 => k_asm); (case k2 => k_asm); (case k3 => k_asm); (case k4 => k_asm); (case k5 => k_asm); (case k6 => k_is); (case k7 => k_is); (case k8 => k_room); (case k9 => exact BindsTo.of_eq rfl); (case c5 => decide); (case kB => exact locs rfl); (case c2 => exact rfl); (case c3 => exact rfl); (case c4 => exact rfl))
  k_whole; intro g' L' h' FG' F' N' B' X' T' GS'; (try dsimp only); (try k_lift B'); (try k_fold)
  k_with "pyIter str" => k_state (fun pre wt => wt = escI way pre ∧ wt.length ≤ 2 * pre.length) "written"
  k_with "state" => first | exact esc_start _ | exact esc_one (by assumption) (by assumption) (by assumption) (by assumption) (by assumption) | exact esc_two (by assumption) (by assumption) (by first | exact .inl (by assumption) | exact .inr (.inl (by assumption)) | exact .inr (.inr (by assumption)))
  w_on
  refine' execs_cut (¬ (way = 2 ∧ (v != Str.ofString "") = true ∧ (v == Txt.strip v) = true ∧ (Builtin.Str.occurrences v (Str.ofString "\"") 0 v.length 1).isEmpty = true)) F' N' ?H ?h1
  case h1 =>
    (repeat' (first | (k_unfold; (try dsimp only)) | walk1 | (dsimp only; walk1) | fail "no step"))
    all_goals first
      | assumption
      | (refine' endSK hret ?e GS' kN0 ?f1 ?n1 ?l1 ?f ?n ?l; (case f => assumption); (case n => assumption); (case f1 => assumption); (case n1 => assumption); (case l => exact fun _ h => h); (case l1 => exact fun _ h => h); (case e => exact if_pos ⟨by assumption, by assumption, by assumption, by assumption⟩))
      | (intro hc; simp_all)
  case H =>
    clear F' N'
    intro hc h1 tk1 F' N'
    (repeat' (first | (k_unfold; (try dsimp only)) | walk1 | (dsimp only; walk1) | fail "no step"))
    all_goals (refine' endSK hret ?e GS' kN0 ?f1 ?n1 ?l1 ?f ?n ?l; (case f => assumption); (case n => assumption); (case f1 => assumption); (case n1 => assumption); (case l => exact fun _ h => h); (case l1 => exact fun _ h => h); (case e => exact wr_no hc (by assumption)))
end
section
open PySem PySem.W PyProof.Rows PySem.Calls PySem.Spec PySem.NumText
set_option maxRecDepth 100000 in
set_option maxHeartbeats 4000000 in
theorem int_new_text {M : Model} {A : Around} {E : Value → Shared → Prop} {s : Shared} {Q : PySem.Fin → Shared → Prop} {x : PySem.Str} {u : Tok}
   (h : wpC M A ((int_private% "intFromText") (.str x u) (numTextOf x) 10) (fun v s' => Q (.done (.ret v)) s') E s) :
   wpC M A (Builtin.«int.__new__» ⟨[.type "int", .str x u], []⟩) Q E s := by
    obtain ⟨hp, g, d, tk, os⟩ := s
    have f1 := F.conv_sub_int
    have f2 := F.madeHere_int
    have f3 := KIN.str_int
    have f4 := KIN.str_idx
    have f5 := KIN.str_trunc
    have f6 : typeOf (.str x u) = pure (.type "str") := rfl
    unfold Builtin.«int.__new__»
    dsimp only
    (refine wpC_then ?_); (repeat wp_step)
    (refine wpC_then ?_); (repeat wp_step)
    (refine wpC_then ?_); (repeat wp_step)
    (refine wpC_then ?_)
    refine wpAny_pure ?_
    refine wpC_bind (m := (int_private% "intFromObject") (.str x u)) ?_
    refine wpC_mono (Q := fun v s' => Q (.done (.ret v)) s') ?_ (fun v s' hq => wpC_pure hq) (fun _ _ e => e)
    (refine wpC_then ?_); (repeat wp_step)
    (refine wpC_then ?_); (repeat wp_step)
    (refine wpC_then ?_); (repeat wp_step)
    (refine wpC_then ?_); (repeat wp_step)
    exact h
set_option maxRecDepth 100000 in
set_option maxHeartbeats 4000000 in
theorem int_text_raises {prog : Program} {w : World} {A : Around} {E : Value → Shared → Prop} {s : Shared} {Q : Value → Shared → Prop} {x : PySem.Str} {u : Tok} (hA : A.handled = none) (hl : x.length ≤ 640)
   (hc : ∀ c ∈ x.cps.toList, c < 16 ^ 8) (hn : PySem.intText? x = none) (h : ∀ h' tk e, Heap.NewExc s.heap h' e "ValueError" → E (.ref e) { s with heap := h', toks := tk }) :
   wpC (model prog w) A ((int_private% "intFromText") (.str x u) (numTextOf x) 10) Q E s := by
    have hs : (numSeenOf x).length ≤ 640 := Nat.le_trans (seen_length x) hl
    have hrep := StrLaws.reprText_len x hc
    change wpC _ _ (if (numSeenOf x).length ≤ 640 then _ else _) _ _ _
    rw [if_pos hs]
    refine wpC_then (wpAny_pure ?_)
    rcases read0 x hs with ⟨m, h1, _⟩ | ⟨_, hr | ⟨i, hr, ha⟩⟩
    · rw [hn] at h1; cases h1
    rotate_left
    (try dsimp only)
    rw [hr]
    (try dsimp only)
    rw [if_neg ha]
    rotate_left
    (try dsimp only)
    rw [hr]
    (try dsimp only)
    refine wpC_then ?_
    repeat wp_step
    rw [if_neg (by simp)]
    all_goals
      refine wpC_then ?_
      repeat wp_step
      refine wpC_then ?_
      repeat wp_step
      (try dsimp only)
      refine wpC_then ?_
      unfold pyRepr
      refine wpAny_bind (pyReprObj_str (x := x) (wpAny_pure ?_) (by rw [sizeLine_eq]; omega))
      refine wpC_then (wpAny_mkStr ?_ (by
        rw [Str.length_append, sizeLine_eq]
        have h1 : ((((toString "invalid literal for int() with base " ++ toString 10 ++ toString ": ") : String) : Str)).length ≤ 100 := by decide +kernel
        have h2 : (⟨(reprText x).cps.extract 0 200⟩ : Str).length ≤ 200 := by
          show ((reprText x).cps.extract 0 200).size ≤ 200
          rw [Array.size_extract]; omega
        omega))
      refine wpC_then ?_
      unfold newExc newTuple
      refine wpAny_bind (wpAny_newObj_type ?_)
      refine wpAny_bind (m := firstArgMember _ _) (wpAny_of_eq (a := Value.none) (by simp only [firstArgMember, plainExc_ValueError.first]; rfl) ?_)
      rw [plainExc_ValueError.own]
      refine wpAny_newObj_type ?_
      refine wpC_bind (wpC_mark ?_)
      refine wpC_of_any ?_
      unfold raiseNew
      refine wpAny_bind (wpAny_handled ?_)
      rw [hA]
      first
        | refine wpAny_throw ?_
        | refine wpAny_bind (wpAny_pure (wpAny_throw ?_))
      exact h _ _ _ ⟨fun b o hb => Heap.get?_push_of_some _ (Heap.get?_push_of_some _ hb), Heap.get?_none_of_le (by simp), _, .ref s.heap.objs.size, Heap.get?_push_size _ rfl, rfl, by simp⟩
end
section
open PySem PySem.W PyProof.Rows PySem.Calls PySem.Spec PySem.NumText
set_option maxRecDepth 100000 in
set_option maxHeartbeats 4000000 in
theorem int_raises {prog : Program} {w : World} {A : Around} {E : Value → Shared → Prop} {s : Shared} {Q : Value → Shared → Prop} {x : PySem.Str} {u : Tok} (hA : A.handled = none) (hl : x.length ≤ 640)
   (hc : ∀ c ∈ x.cps.toList, c < 16 ^ 8) (hn : PySem.intText? x = none) (h : ∀ h' tk e, Heap.NewExc s.heap h' e "ValueError" → E (.ref e) { s with heap := h', toks := tk }) :
   wpC (model prog w) A (call (.type "int") [.str x u]) Q E s := by
    have ft := F.called_int
    obtain ⟨c, tl, hmro⟩ := ft.mro
    have hmade := ft.made
    have hsub := ft.sub
    have hct := F.typeCall_int_1 (.str x u)
    have hcn := F.newCall_int_1 (.str x u)
    have h1 := ft.notType
    have h2 := ft.canCreate
    refine wpC_call (codeC_of_tree ?_)
    show wpC _ _ (callAny (.type "int") _) _ _ _
    refine wpC_pure ⟨Code.quiet_builtin _ (by decide +kernel), codeC_builtin F.entry_type_call ?_⟩
    rw [Around.under_plain (weight_type_call_type "int" [.str x u] []) (units_type_call_type "int" [.str x u] [])]
    unfold Builtin.«type.__call__»
    dsimp only
    rw [if_neg (by rw [h1]; exact Bool.false_ne_true), if_neg (by rw [h2]; exact Bool.false_ne_true)]
    refine wpC_then (wpAny_of_eq hct ?_)
    refine wpC_then (wpAny_of_eq hmro ?_)
    rw [if_neg (by exact Bool.false_ne_true)]
    refine wpC_then (wpAny_of_eq hmade ?_)
    refine wpC_then (wpAny_pure ?_)
    refine wpC_bind (wpC_holding (wpC_call (codeC_call_builtin (Code.quiet_builtin _ (by decide +kernel)) hcn (codeC_builtin F.entry_int_new ?_))))
    rw [Around.under_plainId ft.plain _]
    exact int_new_text (int_text_raises hA hl hc hn h)
end
section
open PySem PySem.W PyProof.Rows PySem.Calls PySem.Spec
open PySem.Sem (wp)
section
variable {M : Model} {A : Around} {E : Value → Shared → Prop} {s : Shared} {env : Env}
/-- the statement that asks for the caller stands first -/
theorem wpC_execs_first {st : Stmt} {rest : List Stmt} {Q : Flow → Shared → Prop}
    (h : wpC M A (exec st env) (fun f s' => match f with | .next => wpAny M A (execs rest env) Q E s' | f => Q f s') E s) : wpC M A (execs (st :: rest) env) Q E s := by
  rw [execs_cons]
  refine wpC_bind (wpC_mono h (fun f s' h' => ?_) fun _ _ x => x)
  cases f <;> first | exact wpC_of_any h' | exact wpC_pure h'
/-- it stands later -/
theorem wpC_execs_later {st : Stmt} {rest : List Stmt} {Q : Flow → Shared → Prop}
    (h : wpAny M A (exec st env) (fun f s' => match f with | .next => wpC M A (execs rest env) Q E s' | f => Q f s') E s) : wpC M A (execs (st :: rest) env) Q E s := by
  rw [execs_cons]
  refine wpC_then (wpAny_mono h (fun f s' h' => ?_) fun _ _ x => x)
  cases f <;> first | exact h' | exact wpC_pure h'
theorem wpC_If {test : PySem.Expr} {body orelse : List Stmt} {pos : Pos} {Q : Flow → Shared → Prop}
    (h : wpAny M A (isTrue test env (eval test env)) (fun b s₂ => if b then wpC M A (execs body env) Q E s₂ else wpC M A (execs orelse env) Q E s₂) E s) :
    wpC M A (exec (.If test body orelse pos) env) Q E s := by
  rw [exec_If]
  refine wpC_then (wpAny_standAt (wpC_then (wpAny_mono h (fun b s₂ h₂ => ?_) fun _ _ x => x)))
  cases b <;> exact h₂
theorem wpC_Assign_Name {x : Str} {pos' pos : Pos} {value : PySem.Expr} {Q : Flow → Shared → Prop}
    (h : wpC M A (eval value env) (fun v s₁ => wpAny M A (storeName env x v) (fun _ => Q .next) E s₁) E s)
    (hs : swapsWith value (some (.Name x pos')) pos.line env = pure false := by rfl) : wpC M A (exec (.Assign [.Name x pos'] value pos) env) Q E s := fun Γ p hΓ hC => by
  simp only [exec_Assign_Name env x pos' value pos hs, Sem.wp_bind', Sem.wp_cmd_standAt, Sem.wp_bindName, Sem.wp_pure']
  exact Sem.wp_mono M Γ _ (fun v _ s₁ h₁ => h₁ Γ _ hΓ) (fun _ _ _ h' => h') _ _ (h Γ _ hΓ hC)
theorem wpC_Call_Name {id : Str} {p pos : Pos} {args : List PySem.Expr} {keywords : List Keyword} {Q : Value → Shared → Prop}
    (h : wpAny M A (eval (.Name id p) env) (fun f s₁ => wpC M A (callWith pos f [] (backTo pos (starEach args env)) (backToKw pos (keywordEach keywords env))) Q E s₁) E s) :
    wpC M A (eval (.Call (.Name id p) args keywords pos) env) Q E s := by
  rw [arm_eval_Call_Name']
  exact wpC_then h
theorem wpC_tail {t : Sem Value} {Q : Value → Shared → Prop} (ht : wpC M A t Q E s) : wpC M A (t >>= fun r => holding [r] point >>= fun _ => pure r) Q E s :=
  wpC_bind (wpC_mono ht (fun _ _ hr => wpC_of_any (wpAny_bind (wpAny_holding (wpAny_point (wpAny_pure hr))))) fun _ _ x => x)
theorem wpC_callWith_type {pos : Pos} {T : String} {first : List Value} {args : List (Bool × Sem Value)} {Q : Value → Shared → Prop} (hplain : args.any (·.1) = false)
    (h : wpAny M A (evalArgs (.type T) true args []) (fun a s₁ => wpC M A (call (.type T) (first ++ a.pos) a.kw) Q E s₁) E s) :
    wpC M A (callWith pos (.type T) first args []) Q E s := by
  unfold callWith
  refine wpC_then (wpAny_holding (wpAny_mono h (fun a s₁ h₁ => wpC_then (wpAny_standAt ?_)) fun _ _ x => x))
  simp only [hplain, List.any_nil, Bool.or_false]
  exact wpC_then (wpAny_pure (wpC_tail h₁))
theorem wpC_callWith_function {pos : Pos} {a : Addr} {first : List Value} {args : List (Bool × Sem Value)} {Q : Value → Shared → Prop} (hplain : args.any (·.1) = false)
    (h : wpAny M A (evalArgs (.ref a) true args []) (fun x s₁ => (∃ o fd, s₁.heap.get? a = some o ∧ o.data = .func fd) ∧ wpC M A (call (.ref a) (first ++ x.pos) x.kw) Q E s₁) E s) :
    wpC M A (callWith pos (.ref a) first args []) Q E s := by
  unfold callWith
  refine wpC_then (wpAny_holding (wpAny_mono h (fun x s₁ h₁ => wpC_then (wpAny_standAt ?_)) fun _ _ x => x))
  obtain ⟨⟨o, fd, ho, hd⟩, hq⟩ := h₁
  simp only [hplain, List.any_nil, Bool.or_false]
  refine wpC_then (m := keeperOf (.ref a)) ?_
  unfold keeperOf
  refine wpAny_bind (wpAny_load ho ?_)
  rw [hd]
  refine wpAny_pure ?_
  dsimp only
  split
  · exact wpC_tail hq
  · exact wpC_tail (by unfold callMarked; exact wpC_keep hq)
theorem wpC_callWith_type1 {pos : Pos} {T : String} {e : PySem.Expr} {Q : Value → Shared → Prop}
    (h : wpAny M A (eval e env) (fun v s₁ => wpC M A (call (.type T) [v]) Q E s₁) E s) (he : backTo pos (starEach [e] env) = [(false, eval e env)] := by rfl) :
    wpC M A (callWith pos (.type T) [] (backTo pos (starEach [e] env)) (backToKw pos (keywordEach [] env))) Q E s := by
  rw [he]
  exact wpC_callWith_type rfl (Calls.evalArgs_plain (Calls.spliced_cons (wpAny_mono h (fun _ _ h₁ => Calls.spliced_nil h₁) fun _ _ x => x)))
/-- a def stands there, and the call of it is met -/
noncomputable def CallsC (M : Model) (A : Around) (a : Addr) (vs : List Value) (Q E : Value → Shared → Prop) (s : Shared) : Prop := (∃ o fd, s.heap.get? a = some o ∧ o.data = .func fd) ∧ wpC M A (call (.ref a) vs) Q E s
theorem wpC_callWith_fun1 {pos : Pos} {a : Addr} {e : PySem.Expr} {Q : Value → Shared → Prop}
    (h : wpAny M A (eval e env) (fun v s₁ => CallsC M A a [v] Q E s₁) E s) (he : backTo pos (starEach [e] env) = [(false, eval e env)] := by rfl) :
    wpC M A (callWith pos (.ref a) [] (backTo pos (starEach [e] env)) (backToKw pos (keywordEach [] env))) Q E s := by
  rw [he]
  exact wpC_callWith_function rfl (Calls.evalArgs_plain (Calls.spliced_cons (wpAny_mono h (fun _ _ h₁ => Calls.spliced_nil h₁) fun _ _ x => x)))
theorem wpC_callWith_fun3 {pos : Pos} {a : Addr} {e1 e2 e3 : PySem.Expr} {Q : Value → Shared → Prop}
    (h : wpAny M A (eval e1 env) (fun v1 s₁ => wpAny M A (eval e2 env) (fun v2 s₂ => wpAny M A (eval e3 env) (fun v3 s₃ => CallsC M A a [v1, v2, v3] Q E s₃) E s₂) E s₁) E s)
    (he : backTo pos (starEach [e1, e2, e3] env) = [(false, eval e1 env), (false, eval e2 env), (false, eval e3 env)] := by rfl) :
    wpC M A (callWith pos (.ref a) [] (backTo pos (starEach [e1, e2, e3] env)) (backToKw pos (keywordEach [] env))) Q E s := by
  rw [he]
  refine wpC_callWith_function rfl (Calls.evalArgs_plain (Calls.spliced_cons (wpAny_mono h (fun _ _ h₁ => ?_) fun _ _ x => x)))
  refine Calls.spliced_cons (wpAny_mono h₁ (fun _ _ h₂ => ?_) fun _ _ x => x)
  exact Calls.spliced_cons (wpAny_mono h₂ (fun _ _ h₃ => Calls.spliced_nil h₃) fun _ _ x => x)
end
section
variable {prog : Program} {w : World} {A : Around} {E : Value → Shared → Prop} {s : Shared} {env : Env}
theorem wpC_Try {body orelse : List Stmt} {h₀ : ExceptHandler} {hs : List ExceptHandler} {pos : Pos} {Q : Flow → Shared → Prop}
    (h : wpC (model prog w) A (execs body env) (fun f s₁ => match f with | .next => wpAny (model prog w) A (execs orelse env) Q E s₁ | f => Q f s₁)
      (fun e s₁ => wpAny (model prog w) A (noteFrame e env) (fun _ s₂ => wpAny (model prog w) A (setFlight e none) (fun _ s₃ => wpAny (model prog w) A (handleBy e env (h₀ :: hs)) Q E s₃) E s₂) E s₁) s) :
    wpC (model prog w) A (exec (.Try body (h₀ :: hs) orelse [] pos) env) Q E s := by
  rw [arm_exec_Try]
  refine wpC_then (wpAny_standAt ?_)
  unfold tryStmt
  dsimp only
  rw [if_pos (show ([] : List Stmt).isEmpty = true from rfl)]
  refine wpC_bind (wpC_attempt (wpC_mono h (fun f s₁ h₁ => ?_) fun e s₁ h₁ => ?_))
  · cases f <;> first | exact wpC_of_any h₁ | exact wpC_pure h₁
  · refine wpC_of_any (wpAny_bind (wpAny_mono h₁ (fun _ s₂ h₂ => ?_) fun _ _ x => x))
    exact wpAny_bind (wpAny_mono h₂ (fun _ s₃ h₃ => h₃) fun _ _ x => x)
end
section
variable {prog : Program} {w : World} {A : Around} {s : Shared} {R : Result → Shared → Prop}
theorem codeC_func {body : List Stmt} {env : Env}
    (h : wpC (model prog w) (A.deeper env) (execs body env) (fun f s' => R (.ok (.ret (match f with | .ret v => v | _ => .none))) s')
      (fun e s' => wpAny (model prog w) (A.deeper env) (leaving env e) (fun _ s'' => R (.error e) s'') (fun e' s'' => R (.error e') s'') s') s) :
    codeC (model prog w) A (.func body env) R s := by
  refine codeC_of_tree ?_
  show wpC _ (A.deeper env) (do point; match ← (execs body env).onRaise (leaving env) with | .ret v => ret v | _ => ret .none) _ _ s
  refine wpC_then (wpAny_point (wpC_bind (wpC_onRaise (wpC_mono h (fun f s' h' => ?_) fun _ _ h' => wpC_of_any h'))))
  cases f <;> exact wpC_pure h'
theorem codeC_call_function {a : Addr} {args : Args} {o : Obj} {fd : FuncData} {body : List Stmt} (hroom : A.depth < recursionLimit)
    (ho : s.heap.get? a = some o)
    (hd' : o.data = .func fd) (hco : fd.scope.isCoroutine = false) (hgen : fd.scope.isGenerator = false) (hbody : fd.body = .stmts body) (hcd : s.heap.CodeRec fd.code fd.qualname)
    (h : wpAny (model prog w) A.in1 (bindArgs fd args) (fun binds s₁ =>
      wpAny (model prog w) A.in1 (newFunctionEnv fd.scope fd.globals fd.closure binds (fd.qualname ++ ".<locals>.") (some a) fd.code none fd.builtins)
        (fun env s₂ => s₂.heap.NoLimit ∧ codeC (model prog w) A (.func body env) R s₂) (fun e s' => R (.error e) s') s₁) (fun e s' => R (.error e) s') s) :
    codeC (model prog w) A (.call (.ref a) args) R s := by
  refine codeC_of_tree (wpC_of_any ?_)
  show wpAny _ A.in1 (callAny (.ref a) args) _ _ s
  simp only [callAny]
  refine wpAny_bind (wpAny_load ho ?_)
  obtain ⟨c, oc, vs, tq, hc, hoc, hdc, hq⟩ := hcd
  simp only [hd', callFunction, hco, hgen, hbody, hc]
  rw [hc] at h
  refine wpAny_bind (m := field (.ref c) 1) (wpAny_field hoc hdc hq (wpAny_bind (wpAny_pure ?_)))
  exact wpAny_bind (wpAny_mono h (fun binds s₁ h₁ => wpAny_bind (wpAny_mono h₁ (fun env s₂ h₂ => wpAny_bind (wpAny_enterFrame h₂.1 hroom
    (wpAny_pure (And.intro rfl h₂.2)))) fun _ _ h' => h')) fun _ _ h' => h')
theorem codeC_call_def {a : Addr} {o : Obj} {fd : FuncData} {body : List Stmt} {args : Args} {binds : List (Str × Value)}
    (hroom : A.depth < recursionLimit) (ho : s.heap.get? a = some o) (hdata : o.data = .func fd) (hlim : s.heap.NoLimit) (hcd : s.heap.CodeRec fd.code fd.qualname)
    (hbody : fd.body = .stmts body) (hbind : BindsTo s fd args binds)
    (hcell : ∀ x ∈ fd.scope.names, x.2 ≠ .cell) (hloc : ∀ x ∈ binds, fd.scope.names.lookup x.1 = some .local)
    (h : ∀ h₀, h₀.Ns s.heap.objs.size (fun x => binds.reverse.lookup x) → (∀ b o, s.heap.get? b = some o → h₀.get? b = some o) →
      wpC (model prog w) (A.deeper (callEnv fd s.heap.objs.size a)) (execs body (callEnv fd s.heap.objs.size a)) (fun f s' => R (.ok (.ret (match f with | .ret v => v | _ => .none))) s')
        (fun e s' => wpAny (model prog w) (A.deeper (callEnv fd s.heap.objs.size a)) (leaving (callEnv fd s.heap.objs.size a) e) (fun _ s'' => R (.error e) s'') (fun e' s'' => R (.error e') s'') s')
        { s with heap := h₀, toks := s.toks + binds.length })
    (hco : fd.scope.isCoroutine = false := by rfl) (hgen : fd.scope.isGenerator = false := by rfl) (hk : fd.scope.kind = .function := by rfl) :
    codeC (model prog w) A (.call (.ref a) args) R s := by
  refine codeC_call_function hroom ho hdata hco hgen hbody hcd (hbind _ _ _ _ ?_)
  refine wpAny_newFunctionEnv hcell hloc (fun h₀ hns₀ hsb₀ => ⟨hlim.fresh _ hsb₀, codeC_func (h h₀ hns₀ fun b o e => ?_)⟩) hk
  exact hsb₀.extBut b o (Nat.ne_of_lt (Heap.lt_size e)) (Heap.get?_push_of_some _ e)
end
end
section
open PySem PySem.W PyProof.Rows PySem.Calls PySem.Spec
open PySem.Sem (wp)
section
variable {prog : Program} {w : World} {A₀ A : Around} {s : Shared} {base h₀ : Heap} {outer : List Env} {L a : Addr} {m : Str → Option Value} {cn : Str} {cs : Scope} {ccd : Value} {news : List (Addr × Obj)} {K : Frag} {p : Program} {loose : List Str} {mean : ExcName → Option Value} {mg mb : Str → Option Value}
/-- what a frame of the text's stands on, when the slots of the frames below may turn -/
structure Gnd (K : Frag) (p : Program) (loose : List Str) (mean : ExcName → Option Value) (mg mb : Str → Option Value) (A : Around) (base : Heap) (outer : List Env) (h : Heap) : Prop where
  B : Below A base outer h
  X : K.In h
  T : Top p loose mean mg mb h
  XB : K.In base
  TB : Top p loose mean mg mb base
  D : KtsDicts (outer.filterMap (·.frame)) h
theorem Gnd.turn {h h' : Heap} (G : Gnd K p loose mean mg mb A base outer h) (T : KtsTurn (outer.filterMap (·.frame)) h h') : Gnd K p loose mean mg mb A base outer h' :=
  have B' : Below A base outer h' := ⟨G.B.stack, fun b o e => T.other b o (G.B.stays b o e) (fun hm => by rw [(G.B.frames.mem hm).1] at e; cases e),
    G.B.frames.of_keeps fun b o e _ => by obtain ⟨sl, hs⟩ := T.up e; exact ⟨_, hs, rfl⟩⟩
  ⟨B', G.XB.keeps B'.stays, G.TB.keeps B'.stays, G.XB, G.TB, G.D.turn T⟩
/-- where a def comes back: what it has made, and the grounds below -/
noncomputable def LeaveC (K : Frag) (p : Program) (loose : List Str) (mean : ExcName → Option Value) (mg mb : Str → Option Value) (A₀ : Around) (base : Heap) (outer : List Env) (h₀ : Heap) (L : Addr) (m : Str → Option Value) (fs : List Addr) (g : Heap) (R : Result → Shared → Prop) (v : Value) (s' : Shared) : Prop :=
  ∃ g' L' m' news', KtsTurn fs g g' ∧ Fr g' L' s'.heap m' ∧ News g' L' s'.heap news' ∧
    ∀ h₁, KtsTurn (outer.filterMap (·.frame)) h₀ h₁ → Fr h₁ L s'.heap m → News h₁ L s'.heap news' → Gnd K p loose mean mg mb A₀ base outer h₁ → R (.ok (.ret v)) s'
end
section
variable {prog : Program} {w : World} {A₀ : Around} {E : Value → Shared → Prop} {s' : Shared} {base g h : Heap} {outer : List Env} {L a e : Addr} {m : Str → Option Value} {name : Str} {scope : Scope} {cd : Value}
  {b₀ : Stmt} {suite : List Stmt} {pos np : Pos} {rest : List ExceptHandler} {Q : Flow → Shared → Prop} {news : List (Addr × Obj)} {KF : Frag}
  {p : Program} {loose : List Str} {mean : ExcName → Option Value} {mg mb : Str → Option Value} {x : Str} {X T' : String}
/-- a new exception, caught by the frame's own try, whatever lies below -/
theorem caught_own (G : Gnd KF p loose mean mg mb A₀ base outer g) (hx' : Heap.NewExc h s'.heap e X) (F : Fr g L h m) (N : News g L h news)
    (ex : nsIn KF mainGlobals x = some none) (hv : bootBuiltins x = some (.type T')) (hn' : x ≠ "__name__")
    (hexc : isSubtype (.type T') (.type "BaseException") = pure true) (hnt : isSubtype (.type ((Manifest.find? T').elim "type" fun y => y.metatype)) (.type "tuple") = pure false) (hsub : isSubtype (.type X) (.type T') = pure true)
    (k : ∀ h' g', KtsTurn (outer.filterMap (·.frame)) g g' → Fr g' L h' m → News g' L h' news → Gnd KF p loose mean mg mb A₀ base outer g' →
      wpAny (model prog w) ((A₀.deeper (envOf name scope L a cd)).mark (some (.ref e))) (execs (b₀ :: suite) (envOf name scope L a cd)) Q E { s' with heap := h' })
    (hk : scope.kind = .function := by rfl) (hx : (envOf name scope L a cd).kindOf x = some .globalImplicit := by rfl) (hd : (x == ("__debug__" : Str)) = false := by decide)
    (hE : PassesOwnAt (model prog w) ((A₀.deeper (envOf name scope L a cd)).mark (some (.ref e))) (A₀.deeper (envOf name scope L a cd)) (envOf name scope L a cd) E := by passes_own) :
    wpAny (model prog w) (A₀.deeper (envOf name scope L a cd)) (noteFrame (.ref e) (envOf name scope L a cd))
      (fun _ s₂ => wpAny (model prog w) (A₀.deeper (envOf name scope L a cd)) (setFlight (.ref e) none) (fun _ s₃ =>
        wpAny (model prog w) (A₀.deeper (envOf name scope L a cd)) (handleBy (.ref e) (envOf name scope L a cd) (.ExceptHandler (some (.Name x np)) none (b₀ :: suite) pos :: rest)) Q E s₃) E s₂) E s' := by
  have K' := G.B.push (name := name) (a := a) (cd := cd) F hk
  have hin : ∀ env ∈ (envOf name scope L a cd :: outer), ∀ b, env.frame = some b → b ∈ (envOf name scope L a cd :: outer).filterMap (·.frame) := fun env he b hb => List.mem_filterMap.mpr ⟨env, he, hb⟩
  obtain ⟨ob, tp, he, hcls, hdat⟩ := hx'.there
  have hen : (hideAll h ((envOf name scope L a cd :: outer).filterMap (·.frame))).get? e = none := by
    cases q : (hideAll h ((envOf name scope L a cd :: outer).filterMap (·.frame))).get? e with
    | none => rfl
    | some o => have := of_hideAll _ q; rw [hx'.new] at this; cases this
  have hBG : ∀ b o, h.get? b = some o → b ∉ (envOf name scope L a cd :: outer).filterMap (·.frame) → (hideAll h ((envOf name scope L a cd :: outer).filterMap (·.frame))).get? b = some o := fun b o q nm => hideAll_get _ q nm
  have hlN : ∀ q ∈ news, (hideAll h ((envOf name scope L a cd :: outer).filterMap (·.frame))).get? q.1 = some q.2 := fun q hq => by
    refine hideAll_get _ (N q hq).1 fun hm => ?_
    rcases kts_mem hm with z | z
    · exact (N q hq).2.1 z
    · obtain ⟨o, ho, _⟩ := (G.B.frames.mem z).2
      rw [(N q hq).2.2] at ho; cases ho
  unfold noteFrame
  simp only [show (envOf name scope L a cd).frame = some L from rfl]
  refine wpAny_bind (wpAny_field he hdat (x := Value.none) rfl ?_)
  rw [if_neg (by decide)]
  refine wpAny_newEntryW (a0 := tp) K'.stack ((funFrames_hide K'.frames hin).of_keeps fun b o hb _ => ⟨o, hx'.keeps b o hb, rfl⟩) rfl he (fun b o hb => hx'.keeps b o (of_hideAll _ hb)) hen hdat (by simp) rfl fun h₅ hL => ?_
  obtain ⟨k1, k2, k3, k4⟩ := hL
  rw [hcls] at k3
  have hheld : Heap.FlyingW (hideAll h ((envOf name scope L a cd :: outer).filterMap (·.frame))) (envOf name scope L a cd :: outer) e (.type X) tp h₅ := ⟨k1, hen, k2, k3⟩
  have hsm₅ : h.UpToSlots h₅ := (Heap.UpToSlots.of_keeps hx'.keeps).trans k4
  obtain ⟨g₅, T₅, F₅, K₅⟩ := kts_ground G.B F hBG hheld.1 hsm₅
  have G₅ := G.turn T₅
  obtain ⟨ob', hob, hobc⟩ := hheld.there
  refine wpAny_handleBy_builtin (X := X) (T := T') (b := true) hexc hnt hsub (name_B F₅ G₅.X (topRead_of G₅.T) ex hv hn' ⟨rfl, ⟨ob', hob, hobc⟩, ?_⟩ hk hx hd)
  refine lands_againW hheld fun h₆ hfl₆ hsm₆ => ?_
  obtain ⟨g₆, T₆, F₆, K₆⟩ := kts_ground G.B F hBG hfl₆.1 (hsm₅.trans hsm₆)
  have Nl : News g₆ L h₆ news := fun q hq => ⟨hfl₆.1 _ _ (hlN q hq), (N q hq).2.1, T₆.none_ _ (N q hq).2.2⟩
  exact wpAny_passesOwnAt hE (k h₆ g₆ T₆ F₆ Nl (G.turn T₆))
end
end
section
open PySem PySem.W PyProof.Rows PySem.Calls PySem.Spec
open PySem.Sem (wp)
section
variable {M : Model} {A : Around} {E : Value → Shared → Prop} {s : Shared} {env : Env}
theorem wpC_IfC {test : PySem.Expr} {body orelse : List Stmt} {pos : Pos} {Q : Flow → Shared → Prop}
    (h : wpC M A (isTrue test env (eval test env)) (fun b s₂ => if b then wpAny M A (execs body env) Q E s₂ else wpAny M A (execs orelse env) Q E s₂) E s) :
    wpC M A (exec (.If test body orelse pos) env) Q E s := by
  rw [exec_If]
  refine wpC_then (wpAny_standAt (wpC_bind (wpC_mono h (fun b s₂ h₂ => ?_) fun _ _ x => x)))
  cases b <;> exact wpC_of_any h₂
theorem wpC_isTrue_not {x : PySem.Expr} {pos : Pos} {whole : Sem Value} {Q : Bool → Shared → Prop} (h : wpC M A (isTrue x env (eval x env)) (fun c s' => Q (!c) s') E s) :
    wpC M A (isTrue (.UnaryOp .Not x pos) env whole) Q E s := by
  show wpC M A (do return !(← isTrue x env (eval x env))) Q E s
  exact wpC_bind (wpC_mono h (fun c s' h' => wpC_pure h') fun _ _ x => x)
theorem wpC_isTrue_plain {e : PySem.Expr} {whole : Sem Value} {Q : Bool → Shared → Prop} (h : wpC M A whole (fun v s₁ => wpAny M A (truthy v) Q E s₁) E s)
    (he : isTrue e env whole = (do let v ← whole; standAt e.pos; holding [v] (truthy v)) := by rfl) : wpC M A (isTrue e env whole) Q E s := by
  rw [he]
  exact wpC_bind (wpC_mono h (fun v s₁ h₁ => wpC_of_any (wpAny_bind (wpAny_standAt (wpAny_holding h₁)))) fun _ _ x => x)
theorem wpC_runOwn {c : Code} {h : Option Value} {Q : Flow → Shared → Prop}
    (hc : codeC M (A.mark h) c (fun r s' => match r with | .ok f => Q f s' | .error e => cameBackBy M A env E e s') s) (hnb : h ≠ some byPass := by intro x; cases x) :
    wpC M A (runOwn c env h) Q E s := by
  unfold runOwn
  exact wpC_onRaise (wpC_mono (wpC_run hc hnb) (fun _ _ x => x) fun _ _ x => wpC_of_any x)
theorem wpC_For {target iter : PySem.Expr} {body orelse : List Stmt} {pos : Pos} {Q : Flow → Shared → Prop}
    (h : wpAny M A (eval iter env) (fun x s₁ => wpAny M A (pyIter x) (fun it s₂ =>
      codeC M A (.forLoop target it body orelse env) (fun r s' => match r with | .ok f => Q f s' | .error e => cameBackBy M A env E e s') s₂) E s₁) E s)
    (hs : ∀ x, foldedSetIterable iter env x = pure x := by intro _; rfl) :
    wpC M A (exec (.For target iter body orelse pos) env) Q E s := by
  rw [exec_For]
  refine wpC_then (wpAny_standAt (wpC_then (wpAny_mono h (fun x s₁ h₁ => ?_) fun _ _ e => e)))
  refine wpC_then (wpAny_of_eq (hs x) (wpC_then (wpAny_standAt (wpC_then (wpAny_holding (wpAny_mono h₁ (fun it s₂ h₂ => ?_) fun _ _ e => e))))))
  exact wpC_runOwn h₂
end
section
variable {prog : Program} {w : World} {A : Around} {s : Shared}
theorem codeC_forLoop {R : Result → Shared → Prop} {target : PySem.Expr} {it : Value} {body orelse : List Stmt} {env : Env} (I : Nat → Shared → Prop)
    (turn : ∀ n s, I n s → wpAny (model prog w) A (pyNext it) (fun r s₁ => match r with
      | none => wpAny (model prog w) A (execs orelse env) (fun f s₃ => R (.ok f) s₃) (notedBy (model prog w) A env fun e s' => R (.error e) s') s₁
      | some v => wpAny (model prog w) A (assign target env v) (fun _ s₂ => wpC (model prog w) A (execs body env) (fun f s₃ => match f with
          | .next | .cont => ∃ m, m < n ∧ I m s₃
          | .brk => R (.ok .next) s₃
          | .ret v => R (.ok (.ret v)) s₃) (notedBy (model prog w) A env fun e s' => R (.error e) s') s₂) (notedBy (model prog w) A env fun e s' => R (.error e) s') s₁) (notedBy (model prog w) A env fun e s' => R (.error e) s') s)
    (n : Nat) (h : I n s) (ht : ∀ v, letOwnedTupleGo target it v = pure () := by intro _; rfl) : codeC (model prog w) A (.forLoop target it body orelse env) R s := by
  refine codeC_loop rfl I (fun n s hI => ?_) n h
  show wpC _ _ ((forTurn target it body orelse env).onRaise (fun x => do noteFrame x env; theTreesLotGoes x)) _ _ s
  refine wpC_onRaise (wpC_mono (E := notedBy (model prog w) A env fun e s' => R (.error e) s') ?_ (fun _ _ x => x) fun e s' x => wpC_of_any (wpAny_bind (wpAny_mono x (fun _ _ y => wpAny_theTreesLotGoes y) fun _ _ y => y)))
  simp only [forTurn]
  refine wpC_then (wpAny_standAt (wpC_then (wpAny_onRaise (wpAny_mono (turn n s hI) (fun r s₁ h₁ => ?_) fun _ _ h' => wpAny_standAt h'))))
  cases r with
  | none => exact wpC_pure (.inr ⟨rfl, codeC_of_any (codeAny_block h₁)⟩)
  | some v =>
    refine wpC_then (wpAny_of_eq (ht v) ?_)
    refine wpC_then (wpAny_mono h₁ (fun _ s₂ h₂ => wpC_bind (wpC_mono h₂ (fun f s₃ h₃ => ?_) fun _ _ h' => h')) fun _ _ h' => h')
    cases f with
    | next => exact wpC_pure (.inl ⟨rfl, h₃⟩)
    | cont => exact wpC_pure (.inl ⟨rfl, h₃⟩)
    | brk => exact wpC_pure h₃
    | ret v => exact wpC_pure h₃
end
end
section
open PySem PySem.W PyProof.Rows PySem.Calls PySem.Spec
/-- the ground of a frame -/
noncomputable abbrev G2 (w : World) (mean : ExcName → Option Value) (mg mb : Str → Option Value) (A : Around) (base : Heap) (outer : List Env) (h : Heap) : Prop := Gnd (hd.heap_39 w.params) topProg LO mean mg mb A base outer h
/-- the law's own frame -/
noncomputable abbrev A1 (cn : Str) (cs : Scope) (L a : Addr) (ccd : Value) : Around := ktrTop 302 7 (some []) cn cs L a ccd [] []
end
section
open PySem PyProof.Rows
set_option maxRecDepth 100000
theorem fi_owner : Manifest.owners.lookup (String.ofList ['r', 'e', 't', 'l', 'i', 'f'].reverse) = some Manifest.sig_filter := by kernel_rfl
theorem fi_slot_init : Slot "filter" "__init__" "object.__init__" :=
  .of (owner := "object") (n := "__init__") (by rw [typeLookup_type, builtinLookup_eq_fast]; kernel_rfl) (by decide +kernel) (by decide +kernel) (by decide +kernel)
    (by first | exact .inl (by decide +kernel) | exact .inr (by decide +kernel)) (by rw [isSubtype_type]; kernel_rfl)
theorem fi_slot_next : Slot "filter" "__next__" "filter.__next__" :=
  .of (owner := "filter") (n := "__next__") (by rw [typeLookup_type, builtinLookup_eq_fast]; kernel_rfl) (by decide +kernel) (by decide +kernel) (by decide +kernel)
    (by first | exact .inl (by decide +kernel) | exact .inr (by decide +kernel)) (by rw [isSubtype_type]; kernel_rfl)
theorem fi_slot_iter : Slot "filter" "__iter__" "filter.__iter__" :=
  .of (owner := "filter") (n := "__iter__") (by rw [typeLookup_type, builtinLookup_eq_fast]; kernel_rfl) (by decide +kernel) (by decide +kernel) (by decide +kernel)
    (by first | exact .inl (by decide +kernel) | exact .inr (by decide +kernel)) (by rw [isSubtype_type]; kernel_rfl)
theorem fi_entry_next : entryFor table "filter.__next__" = some Builtin.«filter.__next__» := entryFor_of_tree (by kernel_rfl)
theorem fi_entry_new : entryFor table "filter.__new__" = some Builtin.«filter.__new__» := entryFor_of_tree (by kernel_rfl)
theorem fi_entry_iter : entryFor table "filter.__iter__" = some Builtin.«dict_keyiterator.__iter__» :=
  entryFor_alias (id' := "dict_keyiterator.__iter__") (by kernel_rfl) (by first | rfl | decide +kernel | (unfold String.splitOn; simp +decide [String.splitOnAux])) (by decide +kernel) (by kernel_rfl)
theorem fi_args_next (a : Value) : argsOk "filter.__next__" ⟨[a], []⟩ := by
  unfold argsOk; rw [signature?_of (id := "filter.__next__") (n := ['_', '_', 't', 'x', 'e', 'n', '_', '_']) (o := ['r', 'e', 't', 'l', 'i', 'f']) (by kernel_rfl) fi_owner]; kernel_rfl
theorem fi_args_iter (a : Value) : argsOk "filter.__iter__" ⟨[a], []⟩ := by
  unfold argsOk; rw [signature?_of (id := "filter.__iter__") (n := ['_', '_', 'r', 'e', 't', 'i', '_', '_']) (o := ['r', 'e', 't', 'l', 'i', 'f']) (by kernel_rfl) fi_owner]; kernel_rfl
theorem fi_mro : mroOf (.type "filter") = pure [.type "filter", .type "object"] := by rw [mroOf_type]; kernel_rfl
theorem fi_lookup_new : typeLookup (.type "filter") "__new__" = pure (some (.builtin "filter.__new__")) := by rw [typeLookup_type, builtinLookup_eq_fast]; kernel_rfl
theorem fi_called : TypeCalled "filter" "filter.__new__" "object.__init__" :=
  ⟨by decide +kernel, by decide +kernel, ⟨_, _, fi_mro⟩, madeBy_type fi_mro fi_lookup_new (by decide +kernel), by decide +kernel, by rw [isSubtype_type]; kernel_rfl, fi_slot_init⟩
theorem fi_typeCall (a b : Value) : checkTypeCall "filter" ⟨[a, b], []⟩ = pure () := by kernel_rfl
theorem fi_newCall (a b : Value) : checkBuiltinCall "filter.__new__" ⟨[.type "filter", a, b], []⟩ = pure () := by kernel_rfl
theorem fi_plain_next : plainId "filter.__next__" = true := by decide +kernel
theorem fi_sub : isSubtype (.type "filter") (.type "filter") = pure true := by rw [isSubtype_type]; kernel_rfl
noncomputable abbrev IsFilter (h : Heap) (f it : Addr) : Prop := h.get? f = some { cls := .type "filter", dict := none, data := .fields #[.builtin "len", .ref it], slots := #[] }
theorem fi_meets_new (l : Addr) (items : Array Value) :
    Meets (Builtin.«filter.__new__» ⟨[.type "filter", .builtin "len", .ref l], []⟩) (fun _ R s => s.heap.IsTuple l items ∧
      R (.ok (.ret (.ref (s.heap.push { cls := .type "tuple_iterator", data := .fields #[.ref l, .int 0 0] }).objs.size)))
        { s with heap := (s.heap.push { cls := .type "tuple_iterator", data := .fields #[.ref l, .int 0 0] }).push { cls := .type "filter", data := .fields #[.builtin "len", .ref s.heap.objs.size] } }) :=
  .of_wp fun prog w A R s h => by
    obtain ⟨hp, g, d, tk, os⟩ := s; obtain ⟨hl, h⟩ := h
    have hsub := fi_sub
    have hL : Heap.IsTuple (Shared.heap ⟨hp, g, d, tk, os⟩) l items := hl
    wp_walk using wpAny_pyIter_tuple hL
    exact ⟨_, rfl, h⟩
section
variable {prog : Program} {w : World} {A : Around} {E : Value → Shared → Prop} {s : Shared}
theorem fi_pyIter {f it : Addr} {Q : Value → Shared → Prop} (he : IsFilter s.heap f it) (h : Q (.ref f) s) : wpAny (model prog w) A (pyIter (.ref f)) Q E s := by
  have hT : s.TypeIs (.ref f) "filter" := ⟨_, he, rfl⟩
  refine wpAny_pyIter_slot hT fi_slot_iter (wpAny_call_entry fi_slot_iter hT fi_entry_iter ?_ (fi_args_iter _))
  show wpAny _ _ (ret (.ref f)) _ _ s
  exact wpAny_pure ⟨_, rfl, "filter", _, hT, fi_slot_next.lookup, h⟩
theorem fi_call {l : Addr} {items : Array Value} {Q : Value → Shared → Prop} (hl : s.heap.IsTuple l items)
    (h : ∀ h', IsFilter h' (s.heap.objs.size + 1) s.heap.objs.size → h'.IsTupleIter s.heap.objs.size l 0 → h'.objs.size = s.heap.objs.size + 2 →
      (∀ b o, s.heap.get? b = some o → h'.get? b = some o) → Q (.ref (s.heap.objs.size + 1)) { s with heap := h' }) :
    wpAny (model prog w) A (call (.type "filter") [.builtin "len", .ref l]) Q E s := by
  refine callType_new fi_called (by decide) (fi_typeCall _ _) (fi_newCall _ _) (fun obj => F.args_object_init_3 obj _ _) fi_entry_new (fi_meets_new l items) ⟨hl, ?_⟩
  have hz : (s.heap.push { cls := .type "tuple_iterator", data := .fields #[.ref l, .int 0 0] }).objs.size = s.heap.objs.size + 1 := Heap.size_push ..
  show _ ∧ _
  rw [hz]
  have he : IsFilter ((s.heap.push { cls := .type "tuple_iterator", data := .fields #[.ref l, .int 0 0] }).push
      { cls := .type "filter", data := .fields #[.builtin "len", .ref s.heap.objs.size] }) (s.heap.objs.size + 1) s.heap.objs.size := by
    have := Heap.get?_push_size (s.heap.push { cls := .type "tuple_iterator", data := .fields #[.ref l, .int 0 0] })
      (o := { cls := .type "filter", data := .fields #[.builtin "len", .ref s.heap.objs.size] }) rfl
    rw [hz] at this; exact this
  refine ⟨⟨_, he, rfl⟩, h _ he ⟨_, Heap.get?_push_of_some _ (Heap.get?_push_size _ rfl), rfl, rfl⟩ (by rw [Heap.size_push, hz]) fun b o x => Heap.get?_push_of_some _ (Heap.get?_push_of_some _ x)⟩
end
end
section
open PySem PyProof.Rows
set_option maxRecDepth 100000
section
variable {prog : Program} {w : World} {A : Around} {E : Value → Shared → Prop} {s : Shared}
theorem ti_item {it t : Addr} {i : Nat} {items} {x : Value} {Q : Option Value → Shared → Prop} (hit : s.heap.IsTupleIter it t i)
    (ht : s.heap.IsTuple t items) (hx : items[i]? = some x)
    (hQ : ∀ h', h'.IsTupleIter it t (i + 1) → Heap.SameBut it s.heap h' → Q (some x) { s with heap := h' }) :
    wpAny (model prog w) A (callSpecial? (.ref it) (Str.ofString "__next__")) Q E s := by
  obtain ⟨o, ho, hc, hd⟩ := id hit
  obtain ⟨ol, hol, _, nl, hdl⟩ := ht
  refine (wpAny_callSpecial?_slot (name := Str.ofString "__next__") hit.typeIs F.slot_tuple_iterator_next
    (wpAny_call_entry F.slot_tuple_iterator_next hit.typeIs F.entry_tuple_iterator_next ?_ (F.args_tuple_iterator_next_1 _)))
  show wpAny _ _ (field (.ref it) 0 >>= _) _ _ s
  refine wpAny_bind (wpAny_field ho hd (x := .ref t) rfl ?_)
  show wpAny _ _ (if (Value.ref t == Value.none) = true then _ else _) _ _ s
  rw [if_neg (show ¬ ((Value.ref t == Value.none) = true) from Bool.false_ne_true)]
  show wpAny _ _ (field (.ref it) 1 >>= _) _ _ s
  refine wpAny_bind (wpAny_field ho hd (x := .int i 0) rfl ?_)
  show wpAny _ _ (seqItems? (.ref t) >>= _) _ _ s
  refine wpAny_bind (wpAny_seqItems hol hdl ?_)
  simp only [Int.toNat_natCast, hx]
  refine wpAny_bind (wpAny_setField ho hd (by simp) (wpAny_pure ⟨x, rfl, hQ _ ?_ (Heap.SameBut.update ..)⟩))
  exact ⟨_, Heap.get?_update_self _ ho (Obj.isFreed_of_fields (Obj.data_mapFields hd _)), (Obj.cls_mapFields ..).trans hc, by
    rw [Obj.data_mapFields hd]; simp [rawInt]⟩
theorem ti_end {it t : Addr} {i : Nat} {items} {Q : Option Value → Shared → Prop} (hh : A.handled = none)
    (hit : s.heap.IsTupleIter it t i) (ht : s.heap.IsTuple t items) (hx : items[i]? = none)
    (hE : ∀ h' e, Heap.ExtBut it s.heap h' → (∃ o, h'.get? e = some o ∧ o.cls = .type "StopIteration") → E (.ref e) { s with heap := h' }) :
    wpAny (model prog w) A (callSpecial? (.ref it) (Str.ofString "__next__")) Q E s := by
  obtain ⟨o, ho, hc, hd⟩ := id hit
  obtain ⟨ol, hol, _, nl, hdl⟩ := ht
  refine (wpAny_callSpecial?_slot (name := Str.ofString "__next__") hit.typeIs F.slot_tuple_iterator_next
    (wpAny_call_entry F.slot_tuple_iterator_next hit.typeIs F.entry_tuple_iterator_next ?_ (F.args_tuple_iterator_next_1 _)))
  show wpAny _ _ (field (.ref it) 0 >>= _) _ _ s
  refine wpAny_bind (wpAny_field ho hd (x := .ref t) rfl ?_)
  show wpAny _ _ (if (Value.ref t == Value.none) = true then _ else _) _ _ s
  rw [if_neg (show ¬ ((Value.ref t == Value.none) = true) from Bool.false_ne_true)]
  show wpAny _ _ (field (.ref it) 1 >>= _) _ _ s
  refine wpAny_bind (wpAny_field ho hd (x := .int i 0) rfl ?_)
  show wpAny _ _ (seqItems? (.ref t) >>= _) _ _ s
  refine wpAny_bind (wpAny_seqItems hol hdl ?_)
  simp only [Int.toNat_natCast, hx]
  refine wpAny_bind (wpAny_rule (wpAny_bind (wpAny_setField ho hd (by simp) ?_)))
  show wpAny _ _ (newExc (.type "StopIteration") [] >>= _) _ _ _
  refine wpAny_bind ?_
  simp only [newExc, newTuple]
  refine wpAny_bind (wpAny_newObj_type ?_ (by size_fits))
  refine wpAny_bind (m := firstArgMember _ _) (wpAny_of_eq (a := Value.none) (by first | rfl | (simp only [firstArgMember]; rfl)) ?_)
  refine wpAny_newObj_type ?_ (by size_fits)
  simp only [raiseNew]
  refine wpAny_bind (wpAny_handled ?_)
  first | rw [show A.in1.handled = none from hh] | rw [hh]
  refine wpAny_bind (wpAny_pure (wpAny_throw ?_))
  exact hE _ _ (((Heap.SameBut.update ..).extBut.push _).push _) ⟨_, Heap.get?_push_size _ rfl, rfl⟩
end
/-- texts as values -/
noncomputable abbrev vals (l : List (Str × Tok)) : Array Value := (l.map fun p => Value.str p.1 p.2).toArray
noncomputable abbrev nz (p : Str × Tok) : Bool := p.1.length != 0
section
variable {prog : Program} {w : World} {A : Around} {R : Result → Shared → Prop}
theorem fi_code {f it t : Addr} {l : List (Str × Tok)} (hh : A.handled = none) (hfi : f ≠ it) (hti : t ≠ it) (hfit : ∀ p ∈ l, p.1.length ≤ 1000) : ∀ (n k : Nat) (s : Shared), l.length - k = n → k ≤ l.length →
    IsFilter s.heap f it → s.heap.IsTupleIter it t k → s.heap.IsTuple t (vals l) →
    (∀ p r k' h' tk, (l.drop k).filter nz = p :: r → (l.drop k').filter nz = r → k' ≤ l.length → IsFilter h' f it → h'.IsTupleIter it t k' → h'.IsTuple t (vals l) → (∀ b o, b ≠ it → s.heap.get? b = some o → h'.get? b = some o) → R (.ok (.ret (.str p.1 p.2))) { s with heap := h', toks := tk }) →
    (∀ h' e tk, (l.drop k).filter nz = [] → (∀ b o, b ≠ it → s.heap.get? b = some o → h'.get? b = some o) → (∃ o, h'.get? e = some o ∧ o.cls = .type "StopIteration") → R (.error (.ref e)) { s with heap := h', toks := tk }) →
    codeAny (model prog w) A (.builtin "filter.__next__" ⟨[.ref f], []⟩) R s := by
  intro n
  induction n with
  | zero =>
    intro k s hn hk hf hit ht hI hE
    have hkl : k = l.length := by omega
    refine codeAny_builtin fi_entry_next ?_
    rw [Around.under_plainId fi_plain_next _]
    show wpAny _ A.in1 (field (.ref f) 0 >>= _) _ _ s
    refine wpAny_bind (wpAny_field hf rfl (x := .builtin "len") rfl ?_)
    show wpAny _ A.in1 (field (.ref f) 1 >>= _) _ _ s
    refine wpAny_bind (wpAny_field hf rfl (x := .ref it) rfl ?_)
    refine wpAny_bind (ti_end (A := A.in1) hh hit ht (by simp [hkl]) fun h' e hx hs => ?_)
    exact hE h' e s.toks (by rw [List.drop_of_length_le (by omega)]; rfl) (fun b o hb eo => hx b o hb eo) hs
  | succ n ih =>
    intro k s hn hk hf hit ht hI hE
    have hlt : k < l.length := by omega
    have hd : l.drop k = l[k] :: l.drop (k + 1) := List.drop_eq_getElem_cons hlt
    refine codeAny_builtin fi_entry_next ?_
    rw [Around.under_plainId fi_plain_next _]
    show wpAny _ A.in1 (field (.ref f) 0 >>= _) _ _ s
    refine wpAny_bind (wpAny_field hf rfl (x := .builtin "len") rfl ?_)
    show wpAny _ A.in1 (field (.ref f) 1 >>= _) _ _ s
    refine wpAny_bind (wpAny_field hf rfl (x := .ref it) rfl ?_)
    refine wpAny_bind (ti_item (A := A.in1) hit ht (x := .str l[k].1 l[k].2) (by simp [hlt]) fun h' hit' hs => ?_)
    have hf' : IsFilter h' f it := (hs.2 f hfi).trans hf
    have ht' : h'.IsTuple t (vals l) := ht.extBut hs.extBut hti
    have hl := hfit l[k] (List.getElem_mem hlt)
    show wpAny _ A.in1 (holding [Value.str l[k].1 l[k].2] (do let good ← call (.builtin "len") [.str l[k].1 l[k].2]; holding [good] (truthy good)) >>= _) _ _ _
    refine wpAny_bind (wpAny_holding (wpAny_bind (len_str (by omega) (wpAny_holding ?_))))
    cases hz : nz l[k] with
    | true =>
      have hne : ((l[k].1.length : Int) != 0) = true := by simp [nz] at hz; simp; omega
      refine PySem.P.truthy_int ?_
      rw [hne]
      simp only [if_true]
      refine wpAny_pure ?_
      exact hI l[k] _ (k + 1) h' _ (by rw [hd, List.filter_cons, hz]; rfl) rfl hlt hf' hit' ht' fun b o hb e => hs.extBut b o hb e
    | false =>
      have hne : ((l[k].1.length : Int) != 0) = false := by simp [nz] at hz; simp [hz]
      refine PySem.P.truthy_int ?_
      rw [hne]
      simp only [Bool.false_eq_true, if_false]
      refine wpAny_pure ⟨plainId_quiet fi_plain_next _, ih (k + 1) _ (by omega) hlt hf' hit' ht' (fun p r k' h2 tk e1 e2 e3 f2 i2 t2 hk2 => ?_) fun h2 e tk e1 hk2 hs2 => ?_⟩
      · exact hI p r k' h2 tk (by rw [hd, List.filter_cons, hz]; exact e1) e2 e3 f2 i2 t2 fun b o hb e => hk2 b o hb (hs.extBut b o hb e)
      · exact hE h2 e tk (by rw [hd, List.filter_cons, hz]; exact e1) (fun b o hb eo => hk2 b o hb (hs.extBut b o hb eo)) hs2
/-- the filter's walk -/
theorem fi_walks (hh : A.handled = none) (f it t : Addr) (l : List (Str × Tok)) (hfi : f ≠ it) (hti : t ≠ it) (hfit : ∀ p ∈ l, p.1.length ≤ 1000) :
    Walks prog w A f [f, it, t] [it] (l.filter nz).length (fun i v => ∃ p, (l.filter nz)[i]? = some p ∧ v = .str p.1 p.2)
      (fun i h => IsFilter h f it ∧ h.IsTuple t (vals l) ∧ ∃ k, k ≤ l.length ∧ h.IsTupleIter it t k ∧ (l.drop k).filter nz = (l.filter nz).drop i) where
  sub := fun b hb => by simp at hb; simp [hb]
  frame := fun i h h' st hk => by
    obtain ⟨h1, h2, k, h3, h4, h5⟩ := st
    refine ⟨hk f (by simp) _ h1, ?_, k, h3, ?_, h5⟩
    · obtain ⟨o, e, r⟩ := h2; exact ⟨o, hk t (by simp) o e, r⟩
    · obtain ⟨o, e, r⟩ := h4; exact ⟨o, hk it (by simp) o e, r⟩
  item := fun i s Q E hi st hQ => by
    obtain ⟨h1, h2, k, h3, h4, h5⟩ := st
    have hT : s.TypeIs (.ref f) "filter" := ⟨_, h1, rfl⟩
    have hd : (l.filter nz).drop i = (l.filter nz)[i] :: (l.filter nz).drop (i + 1) := List.drop_eq_getElem_cons hi
    unfold pyNext
    refine wpAny_bind (wpAny_attempt (wpAny_callSpecial?_slot (name := Str.ofString "__next__") hT fi_slot_next
      (wpAny_call (codeAny_call_builtin_code (plainId_quiet fi_plain_next _) (fi_slot_next.check _ _ _ _ _ _ _ _ hT (fi_args_next _) ?_)))))
    refine fi_code hh hfi hti hfit _ k _ rfl h3 h1 h4 h2 (fun p r k' h' tk e1 e2 e3 f2 i2 t2 hk2 => ?_) fun h' e tk e1 _ _ => ?_
    · rw [h5, hd] at e1
      injection e1 with e4 e5
      refine wpAny_pure (hQ _ h' tk ⟨p, by rw [List.getElem?_eq_getElem hi, e4], rfl⟩ ⟨f2, t2, k', e3, i2, by rw [e2, e5]⟩ fun b o hb e => hk2 b o (fun q => hb (by simp [q])) e)
    · rw [h5, hd] at e1; cases e1
  done := fun s Q E st hQ => by
    obtain ⟨h1, h2, k, h3, h4, h5⟩ := st
    have hT : s.TypeIs (.ref f) "filter" := ⟨_, h1, rfl⟩
    unfold pyNext
    refine wpAny_bind (wpAny_attempt (wpAny_callSpecial?_slot (name := Str.ofString "__next__") hT fi_slot_next
      (wpAny_call (codeAny_call_builtin_code (plainId_quiet fi_plain_next _) (fi_slot_next.check _ _ _ _ _ _ _ _ hT (fi_args_next _) ?_)))))
    refine fi_code hh hfi hti hfit _ k _ rfl h3 h1 h4 h2 (fun p r k' h' tk e1 e2 e3 f2 i2 t2 hk2 => ?_) fun h' e tk e1 hk2 he => ?_
    · rw [h5, List.drop_of_length_le (Nat.le_refl _)] at e1; cases e1
    · refine wpAny_bind (wpAny_isInstance (T := "StopIteration") (b := true) he isSubtype_stop ?_)
      exact wpAny_pure (hQ h' tk fun b o hb e => hk2 b o (fun q => hb (by simp [q])) e)
  self := fun _ _ _ _ st hQ => fi_pyIter st.1 hQ
end
end
section
open PySem PySem.W PyProof.Rows PySem.Calls PySem.Spec
set_option maxRecDepth 100000
/-- the table of codes: empty, or with the one generator's code -/
noncomputable def TabOk (pos : Pos) (ps : Array Value) : Prop := ps = #[] ∨ ∃ c', ps = #[rawInt pos.line, rawInt pos.col, c']
theorem TabOk.triples {pos : Pos} {ps : Array Value} (h : TabOk pos ps) : TriplesOk ps.toList := by
  rcases h with rfl | ⟨c', rfl⟩
  · exact True.intro
  · simp [TriplesOk, rawInt]
theorem gj_code {M : Model} {A : Around} {E : Value → Shared → Prop} {s : Shared} {env : Env} {c P : Addr} {ps : Array Value} {pos : Pos} {qualname : Str} {scope : Scope} {Q : Value → Shared → Prop} (hc : env.code = .ref c) (C : CodeHd s.heap c P) (hP : s.heap.get? P = some (tabObj ps)) (hps : TabOk pos ps)
    (hQ : ∀ code h' tk ps', Heap.ExtBut P s.heap h' → s.heap.objs.size ≤ h'.objs.size → h'.get? P = some (tabObj ps') → TabOk pos ps' → Q code { s with heap := h', toks := tk }) :
    wpAny M A (genexprCode env pos qualname scope) Q E s := by
  have hok := C.code hP hps.triples
  have htab := C.tab hP
  rcases hps with rfl | ⟨c', rfl⟩
  · refine wpAny_genexprCodeX hc hok htab rfl fun c' h' tk hx hge hlt _ _ ht _ => ?_
    exact hQ _ h' tk _ hx (Nat.le_of_lt (Nat.lt_of_le_of_lt hge hlt)) ht.2 (.inr ⟨.ref c', rfl⟩)
  · refine wpAny_genexprCode_hit (c' := c') hc hok (by simp [codeAmong, rawInt]) ?_
    exact hQ _ s.heap s.toks _ (fun b o _ e => e) (Nat.le_refl _) hP (.inr ⟨c', rfl⟩)
theorem passing_all (n : Nat) : passing (fun _ => true) n 0 = List.range n := by
  unfold passing; simp
section
variable {w : World} {A : Around} {E : Value → Shared → Prop} {s : Shared} {g : Heap} {L c P D : Addr} {m mg mb : Str → Option Value} {news : List (Addr × Obj)} {p : Program} {loose : List Str} {mean : ExcName → Option Value} {ps : Array Value} {l : List (Str × Tok)}
theorem gj_exp {env : Env} {elt iter : Expr} {x : Str} {px : Pos} {scope : Scope} {cl : List (Str × Addr)} {pos : Pos} {Q : Value → Shared → Prop} {tx : Str → Str}
    (F : Fr g L s.heap m) (N : News g L s.heap news) (T : Top p loose mean mg mb g) (C : CodeHd g c P) (hmem : (P, tabObj ps) ∈ news) (hps : TabOk pos ps) (hD : s.heap.IsTuple D (vals l)) (hfit : ∀ q ∈ l, q.1.length ≤ 1000) (hG : AllBare s.gens) (hcode : env.code = .ref c) (hgl : env.globals = mainGlobals)
    (hh : A.handled = none) (hco : scope.isCoroutine = false) (hclos : closureFor scope env = pure cl) (hcell : ∀ y ∈ scope.names, y.2 ≠ .cell) (h0 : scope.names.lookup (".0" : Str) = some NameKind.local)
    (hx : scope.names.lookup x = some .local) (hkind : scope.kind = .function) (hroom : A.depth < recursionLimit)
    (hev : wpAny (model PP w) A (eval iter env) (fun v s₁ => ∃ h₁ tk f it, s₁ = { s with heap := h₁, toks := tk } ∧ (∀ b o, s.heap.get? b = some o → h₁.get? b = some o) ∧ v = .ref f ∧ IsFilter h₁ f it ∧ h₁.IsTupleIter it D 0 ∧ s.heap.objs.size ≤ it ∧ f ≠ it ∧ s.heap.objs.size ≤ f) E s)
    (hq : ∀ (A' : Around) E' y t (C' : Addr) (code : Value) (s₂ : Shared) m₂, A'.handled = none → s₂.heap.Ns C' m₂ → m₂ x = some (.str y t) → y.length ≤ 1000 →
      wpAny (model PP w) A' (eval elt (genEnv scope cl C' code builtinsNs env)) (fun v s₃ => (∃ u, v = .str (tx y) u) ∧ Keeps s₂ s₃) E' s₂)
    (hQ : ∀ a s₅ ps', (∀ b o, b ≠ P → s.heap.get? b = some o → s₅.heap.get? b = some o) → s₅.heap.get? P = some (tabObj ps') → TabOk pos ps' → AllBare s₅.gens → s₅.os = s.os → s.heap.objs.size ≤ s₅.heap.objs.size →
      Gen PP w A (s.heap.objs.size - 1) a (l.filter nz).length (fun j y => ∃ q u, (l.filter nz)[j]? = some q ∧ y = .str (tx q.1) u) s₅ → Q (.ref a) s₅)
    (hs : ∀ x, genFold iter env x = pure x) :
    wpAny (model PP w) A (eval (.GeneratorExp elt [⟨.Name x px, iter, [], 0⟩] scope pos) env) Q E s := by
  have hPm := N _ hmem
  have hlim : s.heap.NoLimit := T.nolimit.keeps F.keep
  have hgs := T.g.keeps F.keep
  obtain ⟨bm, ob, b1, b2, b3, b4, b5, b6⟩ := T.bmain
  have hgP : mainGlobals ≠ P := fun q => by
    obtain ⟨o, es, ep, e, hd, _⟩ := hgs
    rw [q, hPm.1] at e; cases e; cases hd
  have hbP : bm ≠ P := fun q => by
    have e := F.keep _ _ b3
    rw [q, hPm.1] at e; cases e; cases b4
  have hcP : cStatics ≠ P := fun e => by
    obtain ⟨_, hns, _⟩ := hlim
    obtain ⟨o, es, ep, ho, hd, _⟩ := hns
    rw [e, hPm.1] at ho; cases ho; cases hd
  have hDP : D ≠ P := fun e => by
    obtain ⟨o, ho, hc, _⟩ := hD
    rw [e, hPm.1] at ho; cases ho; cases hc
  have hDlt : @LT.lt Nat _ D s.heap.objs.size := by obtain ⟨o, ho, _⟩ := hD; exact Heap.lt_size ho
  have hPlt : @LT.lt Nat _ P s.heap.objs.size := Heap.lt_size hPm.1
  have hclt : @LT.lt Nat _ cStatics s.heap.objs.size := let ⟨_, hn, _⟩ := hlim; hn.lt
  refine wpAny_GeneratorExp_walksQ hh hco hclos hcell h0 hx hkind hroom (wpAny_mono hev (fun xv s₁ h₁' => ?_) fun _ _ e => e) hs
  obtain ⟨h₁, tk, f, it, rfl, hk₁, rfl, hf, hit, hits, hfi, hfs⟩ := h₁'
  refine fi_pyIter hf ⟨hlim.keeps hk₁, ?_⟩
  refine gj_code hcode ((C.keeps F.keep).keeps hk₁) (hk₁ _ _ hPm.1) hps fun code h₃ tk₃ ps' hx₃ hsz₃ hP₃ hps' => ?_
  have hx₃ : Heap.ExtBut P h₁ h₃ := hx₃
  have hsz₃ : h₁.objs.size ≤ h₃.objs.size := hsz₃
  refine wpAny_builtinsFor (m := mg) (bm := bm) (o := ob) (by rw [hgl]; exact (hgs.keeps hk₁).extBut hx₃ hgP) b1 b2 (hx₃ _ _ hbP (hk₁ _ _ (F.keep _ _ b3))) b4 b5 b6 ?_
  have hD₁ : h₁.IsTuple D (vals l) := let ⟨o, ho, r⟩ := hD; ⟨o, hk₁ _ _ ho, r⟩
  have hfl : @LT.lt Nat _ f h₁.objs.size := Heap.lt_size hf
  have hil : @LT.lt Nat _ it h₁.objs.size := by obtain ⟨o, ho, _⟩ := hit; exact Heap.lt_size ho
  have hfP : @Ne Nat f P := by omega
  have hiP : @Ne Nat it P := by omega
  have hDi : @Ne Nat D it := by omega
  have hsz₁ : s.heap.objs.size ≤ h₁.objs.size := by omega
  refine ⟨f, [f, it, D], [it], (l.filter nz).length, _, _, (fun _ => true), (fun i y => ∃ q u, (l.filter nz)[i]? = some q ∧ y = .str (tx q.1) u), rfl, (fun A' hA => fi_walks hA f it D l hfi hDi hfit), ⟨hx₃ _ _ hfP hf, hD₁.extBut hx₃ hDP, 0, Nat.zero_le _, ?_, rfl⟩, ?_, (hlim.keeps hk₁).extBut hx₃ hcP, ?_, ?_, ?_⟩
  · obtain ⟨o, ho, r⟩ := hit; exact ⟨o, hx₃ _ _ hiP ho, r⟩
  · intro b hb
    show @LT.lt Nat _ b h₃.objs.size
    simp only [List.mem_cons, List.not_mem_nil, or_false] at hb
    rcases hb with rfl | rfl | rfl <;> omega
  · intro hm
    have hm : cStatics = it := by simpa using hm
    rw [hm] at hclt
    omega
  · intro href hhref
    refine ⟨?_, ?_⟩
    · intro A' E' i v s₂ m₂ hA _ _ _ _
      exact wpAny_pure ⟨rfl, _, _, rfl, fun _ _ e => e⟩
    · rintro A' E' i v s₂ m₂ hA ⟨q, hq1, rfl⟩ _ hns hmx _
      refine wpAny_mono (hq A' E' q.1 q.2 _ code s₂ m₂ hA hns hmx (hfit q ((List.mem_filter.mp (List.mem_of_getElem? hq1)).1))) (fun v s₃ h => ?_) fun _ _ e => e
      obtain ⟨⟨u, rfl⟩, hk⟩ := h
      exact ⟨⟨q, u, hq1, rfl⟩, hk⟩
  · intro a h₅ tk₅ gs hgb hag hsz₅ hk₅ W hat
    have hF : (fun j y => ∃ i, (passing (fun _ => true) (l.filter nz).length 0)[j]? = some i ∧ ∃ q u, (l.filter nz)[i]? = some q ∧ y = Value.str (tx q.1) u) = (fun (j : Nat) (y : Value) => ∃ (q : Str × Tok) (u : Tok), (l.filter nz)[j]? = some q ∧ y = Value.str (tx q.1) u) := by
      funext j y
      refine propext ⟨?_, ?_⟩
      · rintro ⟨i, hi, h⟩
        rw [passing_all] at hi
        obtain ⟨hlt, e⟩ := List.getElem?_eq_some_iff.mp hi
        rw [List.getElem_range] at e
        rw [e]; exact h
      · intro h
        refine ⟨j, ?_, h⟩
        obtain ⟨q, u, h1, _⟩ := h
        rw [passing_all, List.getElem?_range (List.getElem?_eq_some_iff.mp h1).1]
    rw [hF, passing_all, List.length_range] at W
    refine hQ a _ ps' (fun b o hb e => hk₅ b o (hx₃ b o hb (hk₁ b o e))) (hk₅ _ _ hP₃) hps' (hG.push hgb) rfl ?_ ⟨_, _, _, _, W, hat, (fun i s' st => st.1.typeIs), List.mem_cons_self, ?_, ?_⟩
    · show s.heap.objs.size ≤ h₅.objs.size
      have : @LT.lt Nat _ h₃.objs.size a := hag
      omega
    · intro b hb
      show b < h₅.objs.size
      have : h₃.objs.size < a := hag
      rw [hsz₅]
      rcases List.mem_cons.mp hb with rfl | hb
      · exact Nat.lt_succ_self _
      · rcases List.mem_cons.mp hb with rfl | hb
        · exact Nat.lt_succ_of_lt hag
        · exact Nat.lt_succ_of_lt (Nat.lt_trans (List.mem_range.mp hb) hag)
    · intro b hb
      rcases List.mem_cons.mp hb with rfl | hb
      · show @LT.lt Nat _ (s.heap.objs.size - 1) h₃.objs.size
        omega
      · have hb : b = it := by simpa using hb
        subst hb
        show @LT.lt Nat _ (s.heap.objs.size - 1) b
        omega
theorem gj_join {sep : Str} {t : Tok} {a L₀ : Addr} {Q : Value → Shared → Prop} {tx : Str → Str} (G : AllBare s.gens)
    (X : Gen PP w A L₀ a (l.filter nz).length (fun j y => ∃ q u, (l.filter nz)[j]? = some q ∧ y = .str (tx q.1) u) s)
    (hok : JoinOk sep ((l.filter nz).map fun q => tx q.1) = true) (hsz : (l.filter nz).length ≤ sizeLine)
    (hQ : ∀ s' t', (∀ b o, b ≤ L₀ → s.heap.get? b = some o → s'.heap.get? b = some o) → AllBare s'.gens → s'.os = s.os → Q (.str (Txt.join sep ((l.filter nz).map fun q => tx q.1)) t') s') :
    wpAny (model PP w) A (call (.builtin "str.join") [.str sep t, .ref a]) Q E s := by
  obtain ⟨fp, wr, g', St, W, hst, hT, ha, hfp, hwr⟩ := X
  have W := W.in4_2
  refine SC.joinGen W hT hst hfp ha (fun j v hv => let ⟨q, u, _, e⟩ := hv; ⟨_, u, e⟩) (fun s' lt hm hacc => ?_) hsz
  have hl : lt.map (·.1) = (l.filter nz).map fun q => tx q.1 := by
    apply List.ext_getElem?
    intro j
    have hsz : lt.length = (l.filter nz).length := by simpa [strValues] using hacc.1
    by_cases hj : j < (l.filter nz).length
    · have hj' : j < lt.length := hsz ▸ hj
      obtain ⟨q, u, h1, hv⟩ := hacc.2 j (.str lt[j].1 lt[j].2) (by simp [strValues, List.getElem?_eq_getElem hj'])
      injection hv with h2 _
      rw [List.getElem?_map, List.getElem?_map, h1, List.getElem?_eq_getElem hj']
      simp [h2]
    · rw [List.getElem?_eq_none (by simpa [hsz] using Nat.le_of_not_lt hj), List.getElem?_eq_none (by simpa using Nat.le_of_not_lt hj)]
  rw [hl]
  have g1 : AllBare s'.gens := G.movedS hm
  exact ⟨hok, fun t' k => hQ { s' with toks := k } t' (fun b o hb e => hm.heap b o (fun hw => Nat.lt_irrefl _ (Nat.lt_of_lt_of_le (hwr b hw) hb)) e) g1 hm.os⟩
end
end
section
open PySem PySem.W PyProof.Rows PySem.Calls PySem.Spec
set_option maxRecDepth 100000
/-- the machine's statements and names, from the program itself -/
noncomputable def mBody : List Stmt := match (PP.main.body[13]? : Option Stmt) with
  | some (.FunctionDef _ _ b _ _ _ _ _ _ _) => b
  | _ => []
noncomputable abbrev mSc : Scope := match (PP.main.body[13]? : Option Stmt) with
  | some (.FunctionDef _ _ _ _ _ _ sc _ _ _) => sc
  | _ => default
noncomputable abbrev mEnv (L : Addr) : Env := envOfC (S "_law_machine") mSc L 85 (.ref 84)
noncomputable abbrev mA (cn : Str) (cs : Scope) (L0 a : Addr) (ccd : Value) (L : Addr) : Around := (A1 cn cs L0 a ccd).deeper (mEnv L)
theorem mBody_len : mBody.length = 20 := by rfl
end
section
open PySem PySem.W PyProof.Rows PySem.Calls PySem.Spec
/-- signs of plain ASCII -/
noncomputable def Asc (x : Str) : Prop := ∀ c ∈ x.cps.toList, c < 128
theorem Asc.ok {x : Str} (h : Asc x) : PyData.strOk x = true := by
  unfold PyData.strOk
  rw [← Array.all_toList, List.all_eq_true]
  intro c hc
  exact decide_eq_true (Nat.lt_trans (h c hc) (by decide))
theorem strs_lay : ∀ {xs : List Str}, (∀ x ∈ xs, Asc x) → PyData.canLayAll0 (xs.map PyData.str) = true
  | [], _ => rfl
  | x :: r, h => by
    show (PyData.canLay0 (.str x) && PyData.canLayAll0 (r.map PyData.str)) = true
    rw [strs_lay fun y hy => h y (.tail _ hy)]
    show (PyData.strOk x && true) = true
    rw [(h x (.head _)).ok]; rfl
theorem strs_depth : ∀ xs : List Str, PyData.depthAll (xs.map PyData.str) = 0
  | [] => rfl
  | _ :: r => by simp [PyData.depthAll, PyData.depth, strs_depth r]
theorem strs_shaped {xs : List Str} (h : ∀ x ∈ xs, Asc x) : SeqAt.shaped (.list (xs.map PyData.str)) = true := by
  simp [SeqAt.shaped, PyData.canLay0, PyData.depth, strs_lay h, strs_depth]
theorem strs_carried : ∀ {vs : List Value} {ns : List Str}, StrsAre vs ns → CarriedAll vs (ns.map PyData.str)
  | _, _, .nil => .nil
  | _, _, .cons _ t r => .cons (.str _ t) (strs_carried r)
theorem strs_eqv : ∀ xs ys : List Str, PyData.eqvAll (xs.map PyData.str) (ys.map PyData.str) = decide (xs = ys)
  | [], [] => by simp [PyData.eqvAll]
  | [], _ :: _ => by simp [PyData.eqvAll]
  | _ :: _, [] => by simp [PyData.eqvAll]
  | a :: r, b :: t => by
    simp only [List.map_cons, PyData.eqvAll, PyData.eqv, strs_eqv r t]
    by_cases h : a = b <;> by_cases h' : r = t <;> simp [h, h']
section
variable {prog : Program} {w : World} {A : Around} {E : Value → Shared → Prop} {s : Shared} {a b : Addr} {xs ys : List Value} {us vs : List Str} {Q : Value → Shared → Prop}
theorem eq_strs (ha : s.heap.IsList a xs.toArray) (hb : s.heap.IsList b ys.toArray) (hi : StrsAre xs us) (hj : StrsAre ys vs) (h1 : ∀ x ∈ us, Asc x) (h2 : ∀ x ∈ vs, Asc x) (hu : A.units + 64 < cLine) (h : Q (.bool (decide (us = vs))) s) :
    wpAny (model prog w) A (compareOp .Eq (.ref a) (.ref b)) Q E s :=
  eq_dataH (reads_newData ha (strs_carried hi)) (reads_newData hb (strs_carried hj)) (strs_shaped h1) (strs_shaped h2) hu (by simp only [PyData.eqv]; rw [strs_eqv]; exact h)
theorem ne_strs (ha : s.heap.IsList a xs.toArray) (hb : s.heap.IsList b ys.toArray) (hi : StrsAre xs us) (hj : StrsAre ys vs) (h1 : ∀ x ∈ us, Asc x) (h2 : ∀ x ∈ vs, Asc x) (hu : A.units + 64 < cLine) (h : Q (.bool (!decide (us = vs))) s) :
    wpAny (model prog w) A (compareOp .NotEq (.ref a) (.ref b)) Q E s :=
  ne_dataH (reads_newData ha (strs_carried hi)) (reads_newData hb (strs_carried hj)) (strs_shaped h1) (strs_shaped h2) hu (by simp only [PyData.eqv]; rw [strs_eqv]; exact h)
/-- a tuple of three texts against the same three -/
theorem ne_tup3 {g : Heap} {L : Addr} {news : List (Addr × Obj)} {x y z : Str} {t1 t2 t3 u1 u2 u3 : Tok} {n k : Nat} (N : News g L s.heap news) (h1 : (a, tupO #[.str x t1, .str y t2, .str z t3] n) ∈ news) (h2 : (b, tupO #[.str x u1, .str y u2, .str z u3] k) ∈ news)
    (hx : Asc x) (hy : Asc y) (hz : Asc z) (hu : A.units + 64 < cLine) (h : Q (.bool false) s) :
    wpAny (model prog w) A (compareOp .NotEq (.ref a) (.ref b)) Q E s := by
  have sh : SeqAt.shaped (.tuple [.str x, .str y, .str z]) = true := by
    simp [SeqAt.shaped, PyData.canLay0, PyData.canLayAll0, PyData.depth, PyData.depthAll, hx.ok, hy.ok, hz.ok]
  exact ne_dataH (reads_tuple_at (News.get N h1) rfl rfl (.cons (.str _ _) (.cons (.str _ _) (.cons (.str _ _) .nil)))) (reads_tuple_at (News.get N h2) rfl rfl (.cons (.str _ _) (.cons (.str _ _) (.cons (.str _ _) .nil)))) sh sh hu
    (by simp only [PyData.eqv, PyData.eqvAll, beq_self_eq_true, Bool.and_true, Bool.not_true]; exact h)
end
end
section
open PySem PySem.W PyProof.Rows PySem.Calls PySem.Spec
section
variable {w : World} {A : Around} {E : Value → Shared → Prop} {s : Shared} {g : Heap} {L a : Addr} {cn : Str} {cs : Scope} {cd : Value}
noncomputable def ForStep (s : Shared) (g : Heap) (L it : Addr) (io : Obj) (Inv : Nat → (Str → Option Value) → List (Addr × Obj) → Prop) (i : Nat) (f : Flow) (s₃ : Shared) : Prop :=
  f = .next ∧ ∃ h' tk' m'' news'', s₃ = { s with heap := h', toks := tk' } ∧ Fr g L h' m'' ∧ News g L h' ((it, io) :: news'') ∧ (∀ p ∈ news'', p.1 ≠ it) ∧ Inv (i + 1) m'' news''
theorem ForStep.intro {it : Addr} {io : Obj} {Inv : Nat → (Str → Option Value) → List (Addr × Obj) → Prop} {i : Nat} {h' : Heap} {tk' : Nat} {m' : Str → Option Value} (news' : List (Addr × Obj)) (F : Fr g L h' m') (N : News g L h' ((it, io) :: news')) (hn : ∀ p ∈ news', p.1 ≠ it) (hI : Inv (i + 1) m' news') :
    ForStep s g L it io Inv i .next { s with heap := h', toks := tk' } := ⟨rfl, h', tk', m', news', rfl, F, N, hn, hI⟩
/-- a for loop over a list that stays, the ledger may move -/
theorem for_items {x : Str} {px pos : Pos} {iter : Expr} {body : List Stmt} {D : Addr} {vs : List Value} {cnt : Nat} {m : Str → Option Value} {news : List (Addr × Obj)} {Q : Flow → Shared → Prop}
    (hh : A.handled = none) (hk : cs.kind = .function) (hl : (envOf cn cs L a cd).kindOf x = some .local)
    (Inv : Nat → (Str → Option Value) → List (Addr × Obj) → Prop) (F : Fr g L s.heap m) (N : News g L s.heap news) (h0 : Inv 0 m news) (hD : ∀ i m news, Inv i m news → (D, listOf vs.toArray cnt) ∈ news)
    (hiter : ∀ Q' : Value → Shared → Prop, Q' (.ref D) s → wpAny (model PP w) A (eval iter (envOf cn cs L a cd)) Q' E s)
    (turn : ∀ (i : Nat) (v : Value) (m' : Str → Option Value) (news' : List (Addr × Obj)) (h : Heap) (tk : Nat) (it : Addr) (io : Obj) (E' : Value → Shared → Prop), vs[i]? = some v → Inv i m' news' → Fr g L h (fun y => if y = x then some v else m' y) → News g L h ((it, io) :: news') → (∀ p ∈ news', p.1 ≠ it) →
      wpAny (model PP w) A (execs body (envOf cn cs L a cd)) (ForStep s g L it io Inv i) E' { s with heap := h, toks := tk })
    (done : ∀ h tk m' news', Inv vs.length m' news' → Fr g L h m' → News g L h news' → Q .next { s with heap := h, toks := tk })
    (hs : ∀ v, foldedSetIterable iter (envOf cn cs L a cd) v = pure v := by intro _; rfl) :
    wpAny (model PP w) A (exec (.For (.Name x px) iter body [] pos) (envOf cn cs L a cd)) Q E s := by
  refine wpAny_For (hiter _ ?_) hs
  refine wpAny_pyIter_list (News.isList N (hD _ _ _ h0)) ?_
  generalize hitd : s.heap.objs.size = it
  have hnew : ∀ p ∈ news, p.1 ≠ it := fun p hp => by
    rw [← hitd]; exact Nat.ne_of_lt (Heap.lt_size (N p hp).1)
  refine codeAny_forLoop (fun k s' => ∃ h tk m' news' i o, s' = { s with heap := h, toks := tk } ∧ o.cls = .type "list_iterator" ∧ o.data = .fields #[.ref D, .int (i : Nat) 0] ∧ Fr g L h m' ∧ News g L h ((it, o) :: news') ∧ (∀ p ∈ news', p.1 ≠ it) ∧ Inv i m' news' ∧ i ≤ vs.length ∧ k = vs.length + 1 - i) ?_ (vs.length + 1)
    ⟨_, _, m, news, 0, ({ cls := .type "list_iterator", data := .fields #[.ref D, .int 0 0] } : Obj), rfl, rfl, rfl, F.push _, hitd ▸ News.push F N _, hnew, h0, Nat.zero_le _, rfl⟩
  rintro k s' ⟨h, tk, m', news', i, o, rfl, hc1, hd1, F2, N2, hne, hI, hi, rfl⟩
  have hDn := hD _ _ _ hI
  have hDit : D ≠ it := hne _ hDn
  have hget : h.get? it = some o := (N2 _ (.head _)).1
  have hit : h.IsListIter it D i := ⟨o, hget, hc1, hd1⟩
  have hl' : h.IsList D vs.toArray := News.isList N2 (.tail _ hDn)
  by_cases hlt : i < vs.length
  · obtain ⟨v, hv⟩ : ∃ v, vs[i]? = some v := ⟨vs[i], List.getElem?_eq_getElem hlt⟩
    refine wpAny_pyNext_list_item hit hl' (by simpa using hv) fun h3 hit3 hs3 => ?_
    obtain ⟨o3, ho3, hc3, hd3⟩ := hit3
    have F3 : Fr g L h3 m' := F2.change hs3 (N2 _ (.head _)).2.1 (N2 _ (.head _)).2.2
    have N3 : News g L h3 ((it, o3) :: news') := by
      intro q hq
      rcases List.mem_cons.mp hq with rfl | hq
      · exact ⟨ho3, (N2 _ (.head _)).2⟩
      · have z := N2 _ (.tail _ hq)
        exact ⟨(hs3.2 _ (hne q hq)).trans z.1, z.2⟩
    refine wpAny_assign_Name (stN F3 N3 (fun h4 F4 N4 => ?_) hk hl)
    refine wpAny_mono (turn i v m' news' h4 _ it o3 _ hv hI F4 N4 hne) (fun f s₃ hf => ?_) fun _ _ e => e
    obtain ⟨rfl, h5, tk5, m5, news5, rfl, F5, N5, hne5, hI5⟩ := hf
    exact ⟨vs.length + 1 - (i + 1), by omega, h5, tk5, m5, news5, i + 1, o3, rfl, hc3, hd3, F5, N5, hne5, hI5, hlt, rfl⟩
  · have hin : i = vs.length := by omega
    subst hin
    refine wpAny_pyNext_list_end hh hit hl' (by simp) fun h3 hs3 => ?_
    refine wpAny_execs_nil ?_
    have z := N2 _ (.head _)
    refine done h3 tk m' news' hI ⟨F2.ns.at' fun o e => hs3 _ o (Ne.symm z.2.1) e, fun b o e => hs3 b o (fun q => ?_) (F2.keep b o e), F2.above⟩ fun q hq => ?_
    · subst q
      rw [z.2.2] at e
      cases e
    · have z2 := N2 _ (.tail _ hq)
      exact ⟨hs3 _ _ (hne q hq) z2.1, z2.2⟩
end
end
section
open PySem PySem.W PyProof.Rows PySem.Calls PySem.Spec
noncomputable abbrev sizesI : List Int := [7, 8, 120, 5, 5, 8, 3, 3, 3]
/-- figures under their sizes -/
inductive Figs : List Int → List Int → Prop
  | nil : Figs [] []
  | snoc {ns ss : List Int} {n k : Int} : Figs ns ss → 0 ≤ n → n < k → Figs (ns ++ [n]) (ss ++ [k])
noncomputable abbrev RetF : (Value → Shared → Prop) → Heap → Addr → (Str → Option Value) → List (Addr × Obj) → Shared → Prop := fun Q h₀ L m news s =>
  ∀ (D : Addr) (us : List Value) (ns : List Int) (n : Nat) (h' : Heap) (tk' : Nat), IntsAre us ns → Figs ns sizesI → Fr h₀ L h' m → News h₀ L h' ((D, listOf us.toArray n) :: news) → (∀ p ∈ news, p.1 < D) →
    Q (.ref D) { s with heap := h', toks := tk' }
noncomputable abbrev mFg (x : Int) (t : Tok) (v : Option Value) (l : Addr) (r : Str → Option Value) : Str → Option Value := fun y => if y = Str.ofString "x" then some (.int x t) else if y = Str.ofString "size" then v else if y = Str.ofString "figures" then some (.ref l) else r y
theorem mFg_of {m : Str → Option Value} {x : Int} {t : Tok} {l : Addr} (h1 : m (Str.ofString "x") = some (.int x t)) (h2 : m (Str.ofString "figures") = some (.ref l)) : m = mFg x t (m (Str.ofString "size")) l m := by
  funext y
  unfold mFg
  by_cases e1 : y = Str.ofString "x"
  · rw [if_pos e1, e1, h1]
  · by_cases e2 : y = Str.ofString "size"
    · rw [if_neg e1, if_pos e2, e2]
    · by_cases e3 : y = Str.ofString "figures"
      · rw [if_neg e1, if_neg e2, if_pos e3, e3, h2]
      · rw [if_neg e1, if_neg e2, if_neg e3]
theorem mFg_x {x x' : Int} {t t' : Tok} {v : Option Value} {l : Addr} {r : Str → Option Value} {v' : Option Value} : (fun y => if y = Str.ofString "x" then some (Value.int x' t') else if y = Str.ofString "size" then v' else mFg x t v l r y) = mFg x' t' v' l r := by
  funext y
  unfold mFg
  by_cases e1 : y = Str.ofString "x"
  · rw [if_pos e1, if_pos e1]
  · by_cases e2 : y = Str.ofString "size"
    · simp only [if_neg e1, if_pos e2]
    · simp only [if_neg e1, if_neg e2]
theorem Figs.length {ns ss : List Int} (h : Figs ns ss) : ns.length = ss.length := by
  induction h with
  | nil => rfl
  | snoc _ _ _ ih => simp [ih]
theorem fr_mFg {g h : Heap} {L D : Addr} {m : Str → Option Value} {x : Int} {t : Tok} {l : Addr} (F : Fr g L h m) (h1 : m (Str.ofString "x") = some (.int x t)) (h2 : m (Str.ofString "figures") = some (.ref l)) (h3 : m (Str.ofString "sizes") = some (.ref D)) : ∃ v r, Fr g L h (mFg x t v l r) ∧ r (Str.ofString "sizes") = some (.ref D) := ⟨_, m, (mFg_of h1 h2) ▸ F, h3⟩
theorem allLt_all {d : Addr} : ∀ {l : List (Addr × Obj)}, AllLt d l → ∀ p ∈ l, p.1 < d
  | [], _, _, h => nomatch h
  | q :: r, h, p, hp => by
    rcases List.mem_cons.mp hp with rfl | hp
    · exact h.1
    · exact allLt_all (show AllLt d r from h.2) p hp
noncomputable abbrev fgSc : Scope := { kind := .function, names := [(Str.ofString "x", .local), (Str.ofString "sizes", .local), (Str.ofString "whole", .local), (Str.ofString "size", .local), (Str.ofString "figures", .local)], isGenerator := false, isCoroutine := false }
noncomputable abbrev fgEnv (L : Addr) : Env := envOf (Str.ofString "_law_figures") fgSc L 47 (.ref 46)
noncomputable abbrev fgBody : List Stmt := [.Expr (.Call (.Attribute (.Name (Str.ofString "figures") ⟨86, 8, 86, 15⟩) (Str.ofString "append") ⟨86, 8, 86, 22⟩) [.BinOp (.Name (Str.ofString "x") ⟨86, 23, 86, 24⟩) .Mod (.Name (Str.ofString "size") ⟨86, 27, 86, 31⟩) ⟨86, 23, 86, 31⟩] [] ⟨86, 8, 86, 32⟩) ⟨86, 8, 86, 32⟩,
  .AugAssign (.Name (Str.ofString "x") ⟨87, 8, 87, 9⟩) .FloorDiv (.Name (Str.ofString "size") ⟨87, 14, 87, 18⟩) ⟨87, 8, 87, 18⟩]
theorem ints_take {ns : List Int} {i : Nat} {n : Int} (h : ns[i]? = some n) : ns.take (i + 1) = ns.take i ++ [n] := by
  obtain ⟨hi, rfl⟩ := List.getElem?_eq_some_iff.mp h
  rw [List.take_succ_eq_append_getElem hi]
section
variable {w : World} {E : Value → Shared → Prop} {s : Shared} {g : Heap} {L D l : Addr} {cn : Str} {cs : Scope} {L0 a : Addr} {ccd : Value} {cl : List (Str × Addr)} {outer : List Env} {Q : Flow → Shared → Prop}
set_option maxRecDepth 100000 in
set_option maxHeartbeats 2000000 in
theorem fig_loop {x : Int} {t : Tok} {v : Option Value} {r : Str → Option Value} {vs : List Value} {n : Nat} {rest : List (Addr × Obj)} (hv : IntsAre vs sizesI) (F : Fr g L s.heap (mFg x t v l r)) (N : News g L s.heap ((l, listOf #[] 0) :: (D, listOf vs.toArray n) :: rest))
    (hr : r (Str.ofString "sizes") = some (.ref D)) (hDl : D ≠ l) (hrl : ∀ p ∈ rest, p.1 ≠ l)
    (hQ : ∀ h tk x' t' v' us ns, IntsAre us ns → Figs ns sizesI → Fr g L h (mFg x' t' v' l r) → News g L h ((l, listOf us.toArray 9) :: (D, listOf vs.toArray n) :: rest) → Q .next { s with heap := h, toks := tk }) :
    wpAny (model PP w) ((A2 cn cs L0 a ccd cl outer).deeper (fgEnv L)) (exec (.For (.Name (Str.ofString "size") ⟨85, 8, 85, 12⟩) (.Name (Str.ofString "sizes") ⟨85, 16, 85, 21⟩) fgBody [] ⟨85, 4, 87, 18⟩) (fgEnv L)) Q E s := by
  (w_top off; k_with_none; (have hz9 : PySem.Challenge.rw_mj0138_01 = PySem.Challenge.rw_mj0138_01 ∧ hd.heap_39 = hd.heap_39 := by (k_fill; exact ⟨rfl, rfl⟩)); clear hz9)
  have hlen : vs.length = 9 := hv.length
  refine for_items (D := D) (vs := vs) (cnt := n) rfl rfl rfl (fun i m news => ∃ x t v us ns, m = mFg x t v l r ∧ news = (l, listOf us.toArray i) :: (D, listOf vs.toArray n) :: rest ∧ IntsAre us ns ∧ Figs ns (sizesI.take i)) F N ⟨x, t, v, [], [], rfl, rfl, .nil, .nil⟩ ?_ ?_ ?_ ?_
  · rintro i m news ⟨x, t, v, us, ns, rfl, rfl, _, _⟩
    exact .tail _ (.head _)
  · intro Q' hq
    exact wpAny_Name (wpAny_loadName_local rfl rfl F.ns hr hq)
  · rintro i v9 m' news' h tk it io E' hv9 ⟨x9, t9, v8, us, ns, rfl, rfl, hI, hF⟩ F1 N1 hne
    obtain ⟨k, u, rfl, hk⟩ := hv.at i v9 hv9
    have hk0 : 0 < k := by
      have hm := List.mem_of_getElem? hk
      simp only [sizesI, List.mem_cons, List.not_mem_nil, or_false] at hm
      omega
    have hk1 : k ≤ 120 := by
      have hm := List.mem_of_getElem? hk
      simp only [sizesI, List.mem_cons, List.not_mem_nil, or_false] at hm
      omega
    have hus : us.length = ns.length := hI.length
    clear F N
    (repeat' (first | (k_unfold; (try dsimp only)) | walk1 | (dsimp only; walk1) | fail "no step"))
    have hnl : us.length ≤ 9 := by
      rw [hus, hF.length, List.length_take]
      exact Nat.min_le_right _ _
    refine append_head (cnt := i) (rest := (it, io) :: (D, listOf vs.toArray n) :: rest) F1 (fun p hp => N1 p ?_) ?_ (Nat.le_trans hnl (by decide)) fun h2 F2 N2 => ?_
    · rcases List.mem_cons.mp hp with rfl | hp
      · exact .tail _ (.head _)
      · rcases List.mem_cons.mp hp with rfl | hp
        · exact .head _
        · exact .tail _ (.tail _ hp)
    · intro p hp
      rcases List.mem_cons.mp hp with rfl | hp
      · exact fun e => hne _ (.head _) e.symm
      · rcases List.mem_cons.mp hp with rfl | hp
        · exact hDl
        · exact hrl p hp
    clear F1 N1
    dsimp only
    (repeat' (first | (k_unfold; (try dsimp only)) | walk1 | (dsimp only; walk1) | fail "no step"))
    rename Fr g L _ (fun y => ite (y = Str.ofString "x") _ _) => F3
    rename News g L _ _ => N3
    rw [mFg_x] at F3
    refine ForStep.intro ((l, listOf (us ++ [Value.int (x9.fmod k) tk]).toArray (i + 1)) :: (D, listOf vs.toArray n) :: rest) F3 (fun p hp => N3 p ?_) ?_ ⟨x9.fdiv k, _, _, us ++ [Value.int (x9.fmod k) tk], ns ++ [x9.fmod k], rfl, rfl, hI.append (.cons _ _ .nil), ?_⟩
    · rcases List.mem_cons.mp hp with rfl | hp
      · exact .tail _ (.head _)
      · rcases List.mem_cons.mp hp with rfl | hp
        · exact .head _
        · exact .tail _ (.tail _ hp)
    · intro p hp
      rcases List.mem_cons.mp hp with rfl | hp
      · exact hne (l, listOf us.toArray i) (.head _)
      · exact hne _ (.tail _ hp)
    · rw [ints_take hk]
      exact .snoc hF (Int.fmod_nonneg_of_pos x9 hk0) (Int.fmod_lt_of_pos x9 hk0)
  · rintro h tk m' news' ⟨x9, t9, v8, us, ns, rfl, rfl, hI, hF⟩ F1 N1
    rw [hlen] at hF N1
    exact hQ h tk x9 t9 v8 us ns hI hF F1 N1
end
noncomputable abbrev mWh (z : Int) (t : Tok) (v : Option Value) (x : Int) (t1 : Tok) (D : Addr) : Str → Option Value := fun y => if y = Str.ofString "whole" then some (.int z t) else if y = Str.ofString "size" then v else if y = Str.ofString "x" then some (.int x t1) else if y = Str.ofString "sizes" then some (.ref D) else none
theorem mWh_x {z z' : Int} {t t' : Tok} {v v' : Option Value} {x : Int} {t1 : Tok} {D : Addr} : (fun y => if y = Str.ofString "whole" then some (Value.int z' t') else if y = Str.ofString "size" then v' else mWh z t v x t1 D y) = mWh z' t' v' x t1 D := by
  funext y
  unfold mWh
  by_cases e1 : y = Str.ofString "whole"
  · rw [if_pos e1, if_pos e1]
  · by_cases e2 : y = Str.ofString "size"
    · simp only [if_neg e1, if_pos e2]
    · simp only [if_neg e1, if_neg e2]
theorem fr_mWh {g h : Heap} {L D : Addr} {z x : Int} {t t1 : Tok} (F : Fr g L h (fun y => if y = Str.ofString "whole" then some (.int z t) else List.lookup y [(Str.ofString "x", Value.int x t1), (Str.ofString "sizes", Value.ref D)].reverse)) : Fr g L h (mWh z t none x t1 D) := by
  have e : (fun y => if y = Str.ofString "whole" then some (Value.int z t) else List.lookup y [(Str.ofString "x", Value.int x t1), (Str.ofString "sizes", Value.ref D)].reverse) = mWh z t none x t1 D := by
    funext y
    unfold mWh
    by_cases e1 : y = Str.ofString "whole"
    · rw [if_pos e1, if_pos e1]
    rw [if_neg e1, if_neg e1]
    by_cases e2 : y = Str.ofString "size"
    · rw [if_pos e2, e2]; rfl
    rw [if_neg e2]
    by_cases e3 : y = Str.ofString "x"
    · rw [if_pos e3, e3]; rfl
    rw [if_neg e3]
    by_cases e4 : y = Str.ofString "sizes"
    · rw [if_pos e4, e4]; rfl
    rw [if_neg e4]
    have a3 : (y == Str.ofString "x") = false := beq_eq_false_iff_ne.mpr e3
    have a4 : (y == Str.ofString "sizes") = false := beq_eq_false_iff_ne.mpr e4
    simp [List.lookup, a3, a4]
  exact e ▸ F
set_option maxRecDepth 100000 in
set_option maxHeartbeats 2000000 in
theorem ct_figures (w : World) (x : Int) (t1 : Tok) (D : Addr) (n : Nat) (u1 u2 u3 u4 u5 u6 u7 u8 u9 : Tok) :
    Ct w 47 [Value.int x t1, Value.ref D] (fun news => ∃ r, news = (D, listOf #[.int 7 u1, .int 8 u2, .int 120 u3, .int 5 u4, .int 5 u5, .int 8 u6, .int 3 u7, .int 3 u8, .int 3 u9] n) :: r) RetF := by
  (w_top off; k_with_none; (have hz9 : PySem.Challenge.rw_mj0138_01 = PySem.Challenge.rw_mj0138_01 ∧ hd.heap_39 = hd.heap_39 := by (k_fill; exact ⟨rfl, rfl⟩)); clear hz9)
  intro mean mg mb cn cs a ccd cl outer A₀ base h₀ L m news s Q E kB kF0 kX kN0 kT kK kPre hret
  refine wpAny_call ?_
  obtain ⟨rest, rfl⟩ := kPre
  refine' code_def (binds := [(Str.ofString "x", Value.int x t1), (Str.ofString "sizes", Value.ref D)]) ?k1 ?k2 ?k3 ?k4 ?k5 ?kA ?kF ?kK ?k6 ?k7 ?k8 ?k9 ?kB ?_ ?c2 ?c3 ?c4 ?c5
  ((case kA => exact rfl); (case kF => exact rfl); (case kK => assumption); (case k1 => k_asm); (case k2 => k_asm); (case k3 => k_asm); (case k4 => k_asm); (case k5 => k_asm); (case k6 => k_is); (case k7 => k_is); (case k8 => k_room); (case k9 => exact BindsTo.of_eq rfl); (case c5 => decide); (case kB => exact locs rfl); (case c2 => exact rfl); (case c3 => exact rfl); (case c4 => exact rfl))
  k_whole; intro g' L' h' FG' F' N' B' X' T'; (try dsimp only); (try k_lift B'); (try k_fold)
  have hv : IntsAre [.int 7 u1, .int 8 u2, .int 120 u3, .int 5 u4, .int 5 u5, .int 8 u6, .int 3 u7, .int 3 u8, .int 3 u9] sizesI := .cons _ _ (.cons _ _ (.cons _ _ (.cons _ _ (.cons _ _ (.cons _ _ (.cons _ _ (.cons _ _ (.cons _ _ .nil))))))))
  generalize hvs : [Value.int 7 u1, .int 8 u2, .int 120 u3, .int 5 u4, .int 5 u5, .int 8 u6, .int 3 u7, .int 3 u8, .int 3 u9] = vs9 at hv hret kN0 N'
  (repeat' (first | (k_unfold; (try dsimp only)) | ((fail_if_success (with_reducible show wpAny _ _ (PySem.exec (Stmt.For _ _ _ _ _) _) _ _ _)); first | walk1 | (dsimp only; walk1)) | fail "no step"))
  rename Fr g' L' _ _ => F1
  rename News g' L' _ _ => N1
  have F2 := fr_mWh F1
  have N2 := N1
  clear F1 N1
  refine for_items (D := D) (vs := vs9) (cnt := n) rfl rfl rfl (fun i m news => ∃ z tz v, m = mWh z tz v x t1 D ∧ news = (D, listOf vs9.toArray n) :: rest ∧ 0 < z) F2 N2 ⟨1, _, _, rfl, rfl, by decide⟩ ?_ ?_ ?_ ?_
  · rintro i m news ⟨z, tz, v, rfl, rfl, _⟩
    exact .head _
  · intro Q' hq
    exact wpAny_Name (wpAny_loadName_local rfl rfl F2.ns rfl hq)
  · rintro i v9 m' news' h tk it io E' hv9 ⟨z, tz, v8, rfl, rfl, hz⟩ F1 N1 hne
    obtain ⟨k, u, rfl, hk⟩ := hv.at i v9 hv9
    have hk0 : 0 < k := (show ∀ k ∈ sizesI, 0 < k by decide) k (List.mem_of_getElem? hk)
    have hkb : PySem.Builtin.Int.intBits k ≤ 64 := (show ∀ k ∈ sizesI, PySem.Builtin.Int.intBits k ≤ 64 by decide +kernel) k (List.mem_of_getElem? hk)
    clear F2 N2
    (repeat' (first | (k_unfold; (try dsimp only)) | walk1 | (dsimp only; walk1) | fail "no step"))
    rename Fr g' L' _ (fun y => ite (y = Str.ofString "whole") _ _) => F3
    rename News g' L' _ _ => N3
    rw [mWh_x] at F3
    exact ForStep.intro _ F3 N3 hne ⟨_, _, _, rfl, rfl, Int.mul_pos hz hk0⟩
  rintro h9 tk9 m9 news9 ⟨z, tz, v8, rfl, rfl, hz⟩ F3 N3
  have hz0 : z ≠ 0 := Int.ne_of_gt hz
  clear F2 N2
  dsimp only
  (repeat' (first | (k_unfold; (try dsimp only)) | ((fail_if_success (with_reducible show wpAny _ _ (PySem.exec (Stmt.For _ _ _ _ _) _) _ _ _)); first | walk1 | (dsimp only; walk1)) | fail "no step"))
  rename Fr g' L' _ (fun y => ite (_ = Str.ofString "figures") _ _) => F1
  rename News g' L' _ (_ :: _ :: _) => N1
  rename _ ∧ AllLt _ _ => l9
  obtain ⟨v9, r9, F2, hr⟩ := fr_mFg (D := D) F1 rfl rfl rfl
  clear F1
  have hrest := allLt_all l9.2
  refine fig_loop (D := D) (vs := vs9) hv F2 N1 hr (Nat.ne_of_lt l9.1) (fun p hp => Nat.ne_of_lt (hrest p hp)) fun h7 k7 x7 t7 v7 us7 ns7 hI7 hF7 F7 N7 => ?_
  clear F2 N1
  dsimp only
  (repeat' (first | (k_unfold; (try dsimp only)) | walk1 | (dsimp only; walk1) | fail "no step"))
  rename Fr h₀ _ _ _ => kF
  rename News h₀ _ _ _ => kN
  refine hret _ us7 ns7 9 h7 k7 hI7 hF7 kF kN fun p hp => ?_
  rcases List.mem_cons.mp hp with rfl | hp
  · exact l9.1
  · exact hrest p hp
end
section
open PySem PySem.W PyProof.Rows PySem.Calls PySem.Spec
/-- a text and a text or None come back -/
noncomputable abbrev RetM (x : Str) (mv : Option Str) : (Value → Shared → Prop) → Heap → Addr → (Str → Option Value) → List (Addr × Obj) → Shared → Prop := fun Q h₀ L m news s =>
  ∀ (D : Addr) (t1 t2 : Tok) (n : Nat) (h' : Heap) (tk' : Nat), Fr h₀ L h' m → News h₀ L h' ((D, tupO #[.str x t1, mvV mv t2] n) :: news) → (∀ p ∈ news, p.1 < D) →
    Q (.ref D) { s with heap := h', toks := tk' }
theorem item_sa {prog : Program} {w : World} {A : Around} {E : Value → Shared → Prop} {s : Shared} {value slice : Expr} {D : Addr} {vs : List Value} {xs : List Str} {k : Int} {u : Tok} {Q : Value → Shared → Prop} (hl : s.heap.IsList D vs.toArray) (hS : StrsAre vs xs)
    (h0 : 0 ≤ k) (hk : k < xs.length) (hfit : k < 2 ^ 63) (h : ∀ y t', xs[k.toNat]? = some y → Q (.str y t') s)
    (hs : subscripted slice false (.ref D) (.int k u) = operate [.ref D, .int k u] (getItem (.ref D) (.int k u)) := by with_unfolding_all rfl) (hg : ∀ r, letTemporaryGo value (.ref D) r = pure () := by intro _; with_unfolding_all rfl) :
    wpAny (model prog w) A (subscriptTail value slice (.ref D) (.int k u)) Q E s := by
  have hlen := hS.length
  have hlt : k.toNat < vs.length := by omega
  have hlt2 : k.toNat < xs.length := by omega
  obtain ⟨t, e1⟩ := hS.at (List.getElem?_eq_getElem hlt2)
  exact item_listL (x := .str xs[k.toNat] t) hl h0 hfit e1 (h _ t (List.getElem?_eq_getElem hlt2)) hs hg
noncomputable abbrev restsL : List Str := [Str.ofString "", Str.ofString ".0", Str.ofString ".07", Str.ofString ".x y", Str.ofString "."]
theorem rests_len {k : Nat} {y : Str} (h : restsL[k]? = some y) : y.length ≤ 4 := by
  have hm := List.mem_of_getElem? h
  simp only [restsL, List.mem_cons, List.not_mem_nil, or_false] at hm
  rcases hm with rfl | rfl | rfl | rfl | rfl <;> decide
noncomputable abbrev fig (i : Int) : Str := Str.ofString (toString i)
noncomputable abbrev headsL (i : Int) : List Str := [fig i, Str.ofString "0" ++ fig i, fig i ++ Str.ofString " ", fig i ++ Str.ofString "x", Str.ofString "B" ++ fig i, Str.ofString "-" ++ fig i, Str.ofString "", fig i]
theorem heads_len {i : Int} (hi : (fig i).length ≤ 3) {k : Nat} {y : Str} (h : (headsL i)[k]? = some y) : y.length ≤ 4 := by
  have hm := List.mem_of_getElem? h
  have e1 : (Str.ofString "0").length = 1 := rfl
  have e2 : (Str.ofString " ").length = 1 := rfl
  have e3 : (Str.ofString "x").length = 1 := rfl
  have e4 : (Str.ofString "B").length = 1 := rfl
  have e5 : (Str.ofString "-").length = 1 := rfl
  have e6 : (Str.ofString "").length = 0 := rfl
  simp only [headsL, List.mem_cons, List.not_mem_nil, or_false] at hm
  rcases hm with rfl | rfl | rfl | rfl | rfl | rfl | rfl | rfl <;> (try rw [Str.length_append]) <;> omega
theorem fig_len {i : Int} (h : 0 ≤ i ∧ i < 120) : (fig i).length ≤ 3 := by
  have : ∀ n : Fin 120, (fig ((n.val : Nat) : Int)).length ≤ 3 := by decide +kernel
  obtain ⟨n, rfl⟩ : ∃ n : Nat, i = (n : Int) := ⟨i.toNat, by omega⟩
  exact this ⟨n, by omega⟩
noncomputable abbrev firsts : List Str := [Str.ofString "", Str.ofString ".", Str.ofString "-", Str.ofString "0", Str.ofString "1", Str.ofString "2", Str.ofString "3", Str.ofString "4"]
noncomputable def relRest (i3 i4 : Int) : Str := restsL.getD i3.toNat (Str.ofString "") ++ restsL.getD i4.toNat (Str.ofString "")
noncomputable def relText (i1 i2 i3 i4 : Int) : Str := (headsL i2).getD i1.toNat (Str.ofString "") ++ relRest i3 i4
noncomputable def relMv (i1 i2 i3 i4 : Int) : Option Str :=
  if (firsts.any fun x => x == Txt.slice (relText i1 i2 i3 i4) none (some 1)) = true then none
  else if ([0, 2, 7].any fun x => x == i1) = true then some (fig (i2 - 3) ++ relRest i3 i4) else some (relText i1 i2 i3 i4)
theorem getD_of {l : List Str} {k : Nat} {y : Str} (h : l[k]? = some y) : l.getD k (Str.ofString "") = y := by
  rw [List.getD_eq_getElem?_getD, h]; rfl
theorem endM {h₀ h' : Heap} {L : Addr} {m : Str → Option Value} {news news' : List (Addr × Obj)} {s : Shared} {Q : Value → Shared → Prop} {tk' : Nat} {x x' : Str} {mv : Option Str} {v : Value} {t1 t2 : Tok} {D : Addr} {n : Nat} (hret : RetM x mv Q h₀ L m news s) (e : x = x') (e2 : v = mvV mv t2) (F : Fr h₀ L h' m) (N : News h₀ L h' ((D, tupO #[.str x' t1, v] n) :: news')) (hs : ∀ p ∈ news, p ∈ news') (hl : AllLt D news) :
    Q (.ref D) { s with heap := h', toks := tk' } := by
  subst e e2
  refine hret D t1 t2 n h' tk' F (fun p hp => ?_) (allLt_all hl)
  rcases List.mem_cons.mp hp with rfl | hp
  · exact N _ (.head _)
  · exact N _ (.tail _ (hs p hp))
set_option maxRecDepth 100000 in
set_option maxHeartbeats 2000000 in
theorem ct_release (w : World) (i1 i2 i3 i4 : Int) (t1 t2 t3 t4 : Tok) (ha : 0 ≤ i1 ∧ i1 < 8) (hb : 0 ≤ i2 ∧ i2 < 120) (hc : 0 ≤ i3 ∧ i3 < 5) (hdd : 0 ≤ i4 ∧ i4 < 5) :
    Ct w 54 [Value.int i1 t1, Value.int i2 t2, Value.int i3 t3, Value.int i4 t4] (fun _ => True) (RetM (relText i1 i2 i3 i4) (relMv i1 i2 i3 i4)) := by
  (w_top off; k_with_none; (have hz9 : PySem.Challenge.rw_mj0138_01 = PySem.Challenge.rw_mj0138_01 ∧ hd.heap_39 = hd.heap_39 := by (k_fill; exact ⟨rfl, rfl⟩)); clear hz9)
  intro mean mg mb cn cs a ccd cl outer A₀ base h₀ L m news s Q E kB kF0 kX kN0 kT kK kPre hret
  refine wpAny_call ?_
  refine' code_def (binds := [(Str.ofString "shape", Value.int i1 t1), (Str.ofString "number", Value.int i2 t2), (Str.ofString "first", Value.int i3 t3), (Str.ofString "second", Value.int i4 t4)]) ?k1 ?k2 ?k3 ?k4 ?k5 ?kA ?kF ?kK ?k6 ?k7 ?k8 ?k9 ?kB ?_ ?c2 ?c3 ?c4 ?c5
  ((case kA => exact rfl); (case kF => exact rfl); (case kK => assumption); (case k1 => k_asm); (case k2 => k_asm); (case k3 => k_asm); (case k4 => k_asm); (case k5 => k_asm); (case k6 => k_is); (case k7 => k_is); (case k8 => k_room); (case k9 => exact BindsTo.of_eq rfl); (case c5 => decide); (case kB => exact locs rfl); (case c2 => exact rfl); (case c3 => exact rfl); (case c4 => exact rfl))
  k_whole; intro g' L' h' FG' F' N' B' X' T'; (try dsimp only); (try k_lift B'); (try k_fold)
  (repeat' (first | (k_unfold; (try dsimp only)) | walk1 | (dsimp only; walk1) | fail "no step"))
  rename Fr g' L' _ _ => F1
  rename News g' L' _ _ => N1
  refine item_sa (xs := restsL) (News.isList N1 (.head _)) (.cons _ _ (.cons _ _ (.cons _ _ (.cons _ _ (.cons _ _ .nil))))) hc.1 (by simpa using hc.2) (by omega) fun y1 t5 hy1 => ?_
  have hl1 := rests_len hy1
  (repeat' (first | (k_unfold; (try dsimp only)) | walk1 | (dsimp only; walk1) | fail "no step"))
  rename Fr g' L' _ _ => F2
  rename News g' L' _ _ => N2
  refine item_sa (xs := restsL) (News.isList N2 (.head _)) (.cons _ _ (.cons _ _ (.cons _ _ (.cons _ _ (.cons _ _ .nil))))) hdd.1 (by simpa using hdd.2) (by omega) fun y2 t6 hy2 => ?_
  have hl2 := rests_len hy2
  (repeat' (first | (k_unfold; (try dsimp only)) | walk1 | (dsimp only; walk1) | fail "no step"))
  rename Fr g' L' _ _ => F3
  rename News g' L' _ _ => N3
  refine item_sa (xs := headsL i2) (News.isList N3 (.head _)) (.cons _ _ (.cons _ _ (.cons _ _ (.cons _ _ (.cons _ _ (.cons _ _ (.cons _ _ (.cons _ _ .nil)))))))) ha.1 (by simpa using ha.2) (by omega) fun y3 t7 hy3 => ?_
  have hl3 := heads_len (fig_len hb) hy3
  have eR : relRest i3 i4 = y1 ++ y2 := by unfold relRest; rw [getD_of hy1, getD_of hy2]
  have eT : relText i1 i2 i3 i4 = y3 ++ (y1 ++ y2) := by unfold relText; rw [getD_of hy3, eR]
  (repeat' (first | (k_unfold; (try dsimp only)) | walk1 | (dsimp only; walk1) | fail "no step"))
  · rename Fr h₀ _ _ _ => kF
    rename News h₀ _ _ _ => kN
    rename (List.any _ _ = true) => hA
    have eM : relMv i1 i2 i3 i4 = none := by unfold relMv; rw [eT, if_pos hA]
    rename _ ∧ _ => l9
    exact endM (t2 := 0) hret eT (by rw [eM]; rfl) kF kN (fun p hp => .tail _ (.tail _ (.tail _ hp))) l9.2.2.2
  · rename Fr h₀ _ _ _ => kF
    rename News h₀ _ _ _ => kN
    rename (List.any [0, 2, 7] _ = true) => hB
    rename (List.any _ _ = false) => hA
    have eM : relMv i1 i2 i3 i4 = some (fig (i2 - 3) ++ (y1 ++ y2)) := by unfold relMv; rw [eT, eR, if_neg (by rw [hA]; exact Bool.false_ne_true), if_pos hB]
    rename _ ∧ _ => l9
    exact endM hret eT (by rw [eM]; rfl) kF kN (fun p hp => .tail _ (.tail _ (.tail _ (.tail _ hp)))) l9.2.2.2.2
  · rename Fr h₀ _ _ _ => kF
    rename News h₀ _ _ _ => kN
    rename (List.any [0, 2, 7] _ = false) => hB
    rename (List.any (_ :: _ :: _ :: _ :: _) _ = false) => hA
    have eM : relMv i1 i2 i3 i4 = some (y3 ++ (y1 ++ y2)) := by unfold relMv; rw [eT, if_neg (by rw [hA]; exact Bool.false_ne_true), if_neg (by rw [hB]; exact Bool.false_ne_true)]
    rename _ ∧ _ => l9
    exact endM hret eT (by rw [eM]; rfl) kF kN (fun p hp => .tail _ (.tail _ (.tail _ (.tail _ hp)))) l9.2.2.2.2
end
section
open PySem PySem.W PyProof.Rows PySem.Calls PySem.Spec
noncomputable abbrev keyL : List Str := [Str.ofString "system", Str.ofString "release", Str.ofString "version"]
theorem key_len {k : Nat} {y : Str} (h : keyL[k]? = some y) : y.length ≤ 100 := by
  have hm := List.mem_of_getElem? h
  simp only [keyL, List.mem_cons, List.not_mem_nil, or_false] at hm
  rcases hm with rfl | rfl | rfl <;> decide
theorem key_len2 {y : Str} (hm : y ∈ keyL) : y.length ≤ 100 := by
  simp only [keyL, List.mem_cons, List.not_mem_nil, or_false] at hm
  rcases hm with rfl | rfl | rfl <;> decide
theorem two_if {n : Str} {u v : Option Value} {r : Str → Option Value} : (fun y => if y = n then u else if y = n then v else r y) = (fun y => if y = n then u else r y) := by
  funext y
  by_cases h : y = n <;> simp [h]
/-- the machine's names from its statement 7 on -/
noncomputable abbrev mM (Dt : Addr) (mv : Value) (rel : Value) (kind : Value) (which : Value) (ly lv : Addr) (r : Str → Option Value) : Str → Option Value := fun y =>
  if y = Str.ofString "turned" then some (.ref Dt) else if y = Str.ofString "moved" then some mv else if y = Str.ofString "release" then some rel else if y = Str.ofString "which" then some which else if y = Str.ofString "kind" then some kind else if y = Str.ofString "versions" then some (.ref lv) else if y = Str.ofString "systems" then some (.ref ly) else r y
section
variable {w : World} {cn : Str} {cs : Scope} {L0 a : Addr} {ccd : Value} {L : Addr} {g : Heap} {s : Shared} {Q : Flow → Shared → Prop} {E : Value → Shared → Prop} {mean : ExcName → Option Value} {mg mb : Str → Option Value} {base : Heap}
  {Dt dt lk lv ly : Addr} {mv rel kind which : Value} {r : Str → Option Value} {c1 c2 c3 c4 od : Obj} {ps : Array Value} {news : List (Addr × Obj)} {way old : Int} {u7 u9 : Tok} {vk vv vy vt : List Value} {nk nv ny nt : Nat} {k1 k2 k3 : Str}
set_option maxRecDepth 100000 in
set_option maxHeartbeats 2000000 in
theorem m_head (G' : G2 w mean mg mb (A1 cn cs L0 a ccd) base [envOf cn cs L0 a ccd] g) (F : Fr g L s.heap (mM Dt mv rel kind which ly lv r))
    (N : News g L s.heap ((Dt, listOf vt.toArray nt) :: (dt, od) :: (lk, listOf vk.toArray nk) :: (lv, listOf vv.toArray nv) :: (ly, listOf vy.toArray ny) :: (L + 1 + 1 + 1 + 1, c1) :: (L + 1 + 1 + 1, c2) :: (L + 1 + 1, c3) :: (L + 1, c4) :: (23, tabObj ps) :: news))
    (d1 : c1.data = .cell (some (.ref dt))) (d2 : c2.data = .cell (some (.int old u9))) (d3 : c3.data = .cell (some (.int way u7))) (d4 : c4.data = .cell (some (.ref lk)))
    (hvk : StrsAre vk keyL) (hvt : StrsAre vt [k1, k2, k3]) (b9 : 0 ≤ old ∧ old < 3)
    {kvs : List (Str × Value)} {TD : List (PyData × PyData)} {tl : Str → Str} (hod : od.IsDictOf (strKind PP w) kvs) (hfd : PyProof.V.FlatPairs PyData.str kvs TD) (hlo : (dt == sysModules) = false) (hlk : ∀ key ∈ keyL, PySem.Spec.lookup (PyData.str key) TD = some (.str (tl key)) ∧ (tl key).length ≤ 1000) (hk1 : k1 ∈ keyL) (hk2 : k2 ∈ keyL) (hk3 : k3 ∈ keyL)
    (cont : ∀ (h : Heap) (tk : Nat) (Dh : Addr) (k0 : Str) (a0 a1 a2 a3 : Tok), keyL[old.toNat]? = some k0 → Fr g L h (fun y => if y = Str.ofString "header" then some (.ref Dh) else mM Dt mv rel kind which ly lv r y) →
      News g L h ((Dh, listOf #[.str (wr k0 (Str.ofString "old, \"older\"") way) a0, .str (wr k1 (tl k1) way) a1, .str (wr k2 (tl k2) way) a2, .str (wr k3 (tl k3) way) a3] 0) :: (Dt, listOf vt.toArray nt) :: (dt, od) :: (lk, listOf vk.toArray nk) :: (lv, listOf vv.toArray nv) :: (ly, listOf vy.toArray ny) :: (L + 1 + 1 + 1 + 1, c1) :: (L + 1 + 1 + 1, c2) :: (L + 1 + 1, c3) :: (L + 1, c4) :: (23, tabObj ps) :: news) →
      wpC (model PP w) (mA cn cs L0 a ccd L) (execs (mBody.drop 9) (mEnv L)) Q E { s with heap := h, toks := tk }) :
    wpC (model PP w) (mA cn cs L0 a ccd L) (execs (mBody.drop 7) (mEnv L)) Q E s := by
  (w_top off; k_with_none; (have hz9 : PySem.Challenge.rw_mj0138_01 = PySem.Challenge.rw_mj0138_01 ∧ hd.heap_39 = hd.heap_39 := by (k_fill; exact ⟨rfl, rfl⟩)); clear hz9)
  obtain ⟨B', X', T', XB', TB', D'⟩ := id G'
  clear XB' TB' D'
  cases hvt with | cons _ t1 hvt =>
  cases hvt with | cons _ t2 hvt =>
  cases hvt with | cons _ t3 hvt =>
  cases hvt
  refine wpC_execs_later ?_
  (repeat' (first | (k_unfold; (try dsimp only)) | ((fail_if_success (with_reducible show wpAny _ _ (PySem.call (Value.ref _) _) _ _ _)); (fail_if_success (with_reducible show wpAny _ _ (subscriptTail _ _ (Value.ref _) (Value.int _ _)) _ _ _)); (fail_if_success (with_reducible show wpAny _ _ (subscriptTail _ _ (Value.ref _) (Value.str _ _)) _ _ _)); (fail_if_success (with_reducible show LCg.CompRest _ _ _ _ _ _ _ _ _ _ _ _ _ _ _ _ _ _ _)); (fail_if_success (with_reducible show LCt.CompRestT _ _ _ _ _ _ _ _ _ _ _ _ _ _ _ _ _ _ _ _)); first | walk1 | (dsimp only; walk1)) | fail "no step"))
  rename Fr g L _ _ => F8
  rename News g L _ _ => N8
  refine item_sa (xs := keyL) (News.isList N8 (by k_mem)) hvk b9.1 (by simpa using b9.2) (by omega) fun k0 tk0 hk0 => ?_
  (repeat' (first | (k_unfold; (try dsimp only)) | ((fail_if_success (with_reducible show wpAny _ _ (PySem.call (Value.ref _) _) _ _ _)); (fail_if_success (with_reducible show wpAny _ _ (subscriptTail _ _ (Value.ref _) (Value.int _ _)) _ _ _)); (fail_if_success (with_reducible show wpAny _ _ (subscriptTail _ _ (Value.ref _) (Value.str _ _)) _ _ _)); (fail_if_success (with_reducible show LCg.CompRest _ _ _ _ _ _ _ _ _ _ _ _ _ _ _ _ _ _ _)); (fail_if_success (with_reducible show LCt.CompRestT _ _ _ _ _ _ _ _ _ _ _ _ _ _ _ _ _ _ _ _)); first | walk1 | (dsimp only; walk1)) | fail "no step"))
  rename Fr g L _ _ => F9
  rename News g L _ _ => N9
  refine ct_written w k0 _ way _ _ _ (key_len hk0) (by decide) mean mg mb _ _ _ _ _ _ _ _ _ _ _ _ _ _ _ B' F9 X' N9 T' rfl trivial ?_
  intro t10 h10 q10 _ F10 N10
  clear F9 N9
  (repeat' (first | (k_unfold; (try dsimp only)) | ((fail_if_success (with_reducible show wpAny _ _ (PySem.call (Value.ref _) _) _ _ _)); (fail_if_success (with_reducible show wpAny _ _ (subscriptTail _ _ (Value.ref _) (Value.int _ _)) _ _ _)); (fail_if_success (with_reducible show wpAny _ _ (subscriptTail _ _ (Value.ref _) (Value.str _ _)) _ _ _)); (fail_if_success (with_reducible show LCg.CompRest _ _ _ _ _ _ _ _ _ _ _ _ _ _ _ _ _ _ _)); (fail_if_success (with_reducible show LCt.CompRestT _ _ _ _ _ _ _ _ _ _ _ _ _ _ _ _ _ _ _ _)); first | walk1 | (dsimp only; walk1)) | fail "no step"))
  refine wpC_execs_later ?_
  (repeat' (first | (k_unfold; (try dsimp only)) | ((fail_if_success (with_reducible show wpAny _ _ (PySem.call (Value.ref _) _) _ _ _)); (fail_if_success (with_reducible show wpAny _ _ (subscriptTail _ _ (Value.ref _) (Value.int _ _)) _ _ _)); (fail_if_success (with_reducible show wpAny _ _ (subscriptTail _ _ (Value.ref _) (Value.str _ _)) _ _ _)); (fail_if_success (with_reducible show LCg.CompRest _ _ _ _ _ _ _ _ _ _ _ _ _ _ _ _ _ _ _)); (fail_if_success (with_reducible show LCt.CompRestT _ _ _ _ _ _ _ _ _ _ _ _ _ _ _ _ _ _ _ _)); first | walk1 | (dsimp only; walk1)) | fail "no step"))
  refine LCg.CompRest.succ ?_
  intro v I oI C oC Dc m2 h11 q11 E' hv hC hx F11 N11 off ne
  obtain rfl : Value.str k1 t1 = v := Option.some.inj hv
  (repeat' (first | (k_unfold; (try dsimp only)) | ((fail_if_success (with_reducible show wpAny _ _ (PySem.call (Value.ref _) _) _ _ _)); (fail_if_success (with_reducible show wpAny _ _ (subscriptTail _ _ (Value.ref _) (Value.int _ _)) _ _ _)); (fail_if_success (with_reducible show wpAny _ _ (subscriptTail _ _ (Value.ref _) (Value.str _ _)) _ _ _)); (fail_if_success (with_reducible show LCg.CompRest _ _ _ _ _ _ _ _ _ _ _ _ _ _ _ _ _ _ _)); (fail_if_success (with_reducible show LCt.CompRestT _ _ _ _ _ _ _ _ _ _ _ _ _ _ _ _ _ _ _ _)); first | walk1 | (dsimp only; walk1)) | fail "no step"))
  refine item_strTab (TabAt.ofNews N11 (by k_mem) hlo hod hfd) (hlk k1 hk1).1 fun v5 hv5 => ?_
  obtain ⟨t5, rfl⟩ := PyProof.V.Flat.str_inv hv5
  (repeat' (first | (k_unfold; (try dsimp only)) | ((fail_if_success (with_reducible show wpAny _ _ (PySem.call (Value.ref _) _) _ _ _)); (fail_if_success (with_reducible show wpAny _ _ (subscriptTail _ _ (Value.ref _) (Value.int _ _)) _ _ _)); (fail_if_success (with_reducible show wpAny _ _ (subscriptTail _ _ (Value.ref _) (Value.str _ _)) _ _ _)); (fail_if_success (with_reducible show LCg.CompRest _ _ _ _ _ _ _ _ _ _ _ _ _ _ _ _ _ _ _)); (fail_if_success (with_reducible show LCt.CompRestT _ _ _ _ _ _ _ _ _ _ _ _ _ _ _ _ _ _ _ _)); first | walk1 | (dsimp only; walk1)) | fail "no step"))
  refine ct_written w k1 (tl k1) way _ _ _ (key_len2 hk1) (hlk k1 hk1).2 mean mg mb _ _ _ _ _ _ _ _ _ _ _ _ _ _ _ B' F11 X' N11 T' rfl trivial ?_
  intro tw1 h12 q12 _ F12 N12
  clear F11 N11
  k_unfold
  refine LCg.CompEnd.intro F12 N12 _ (fun p hp => hp) off (.inr ⟨_, .tail _ (.head _), rfl, _, rfl⟩) ?_
  clear F12 N12 off ne hv hC hx
  refine LCg.CompRest.succ ?_
  intro v I oI C oC Dc m2 h11 q11 E' hv hC hx F11 N11 off ne
  obtain rfl : Value.str k2 t2 = v := Option.some.inj hv
  (repeat' (first | (k_unfold; (try dsimp only)) | ((fail_if_success (with_reducible show wpAny _ _ (PySem.call (Value.ref _) _) _ _ _)); (fail_if_success (with_reducible show wpAny _ _ (subscriptTail _ _ (Value.ref _) (Value.int _ _)) _ _ _)); (fail_if_success (with_reducible show wpAny _ _ (subscriptTail _ _ (Value.ref _) (Value.str _ _)) _ _ _)); (fail_if_success (with_reducible show LCg.CompRest _ _ _ _ _ _ _ _ _ _ _ _ _ _ _ _ _ _ _)); (fail_if_success (with_reducible show LCt.CompRestT _ _ _ _ _ _ _ _ _ _ _ _ _ _ _ _ _ _ _ _)); first | walk1 | (dsimp only; walk1)) | fail "no step"))
  refine item_strTab (TabAt.ofNews N11 (by k_mem) hlo hod hfd) (hlk k2 hk2).1 fun v5 hv5 => ?_
  obtain ⟨t5, rfl⟩ := PyProof.V.Flat.str_inv hv5
  (repeat' (first | (k_unfold; (try dsimp only)) | ((fail_if_success (with_reducible show wpAny _ _ (PySem.call (Value.ref _) _) _ _ _)); (fail_if_success (with_reducible show wpAny _ _ (subscriptTail _ _ (Value.ref _) (Value.int _ _)) _ _ _)); (fail_if_success (with_reducible show wpAny _ _ (subscriptTail _ _ (Value.ref _) (Value.str _ _)) _ _ _)); (fail_if_success (with_reducible show LCg.CompRest _ _ _ _ _ _ _ _ _ _ _ _ _ _ _ _ _ _ _)); (fail_if_success (with_reducible show LCt.CompRestT _ _ _ _ _ _ _ _ _ _ _ _ _ _ _ _ _ _ _ _)); first | walk1 | (dsimp only; walk1)) | fail "no step"))
  refine ct_written w k2 (tl k2) way _ _ _ (key_len2 hk2) (hlk k2 hk2).2 mean mg mb _ _ _ _ _ _ _ _ _ _ _ _ _ _ _ B' F11 X' N11 T' rfl trivial ?_
  intro tw2 h12 q12 _ F12 N12
  clear F11 N11
  k_unfold
  refine LCg.CompEnd.intro F12 N12 _ (fun p hp => hp) off (.inr ⟨_, .tail _ (.head _), rfl, _, rfl⟩) ?_
  clear F12 N12 off ne hv hC hx
  refine LCg.CompRest.succ ?_
  intro v I oI C oC Dc m2 h11 q11 E' hv hC hx F11 N11 off ne
  obtain rfl : Value.str k3 t3 = v := Option.some.inj hv
  (repeat' (first | (k_unfold; (try dsimp only)) | ((fail_if_success (with_reducible show wpAny _ _ (PySem.call (Value.ref _) _) _ _ _)); (fail_if_success (with_reducible show wpAny _ _ (subscriptTail _ _ (Value.ref _) (Value.int _ _)) _ _ _)); (fail_if_success (with_reducible show wpAny _ _ (subscriptTail _ _ (Value.ref _) (Value.str _ _)) _ _ _)); (fail_if_success (with_reducible show LCg.CompRest _ _ _ _ _ _ _ _ _ _ _ _ _ _ _ _ _ _ _)); (fail_if_success (with_reducible show LCt.CompRestT _ _ _ _ _ _ _ _ _ _ _ _ _ _ _ _ _ _ _ _)); first | walk1 | (dsimp only; walk1)) | fail "no step"))
  refine item_strTab (TabAt.ofNews N11 (by k_mem) hlo hod hfd) (hlk k3 hk3).1 fun v5 hv5 => ?_
  obtain ⟨t5, rfl⟩ := PyProof.V.Flat.str_inv hv5
  (repeat' (first | (k_unfold; (try dsimp only)) | ((fail_if_success (with_reducible show wpAny _ _ (PySem.call (Value.ref _) _) _ _ _)); (fail_if_success (with_reducible show wpAny _ _ (subscriptTail _ _ (Value.ref _) (Value.int _ _)) _ _ _)); (fail_if_success (with_reducible show wpAny _ _ (subscriptTail _ _ (Value.ref _) (Value.str _ _)) _ _ _)); (fail_if_success (with_reducible show LCg.CompRest _ _ _ _ _ _ _ _ _ _ _ _ _ _ _ _ _ _ _)); (fail_if_success (with_reducible show LCt.CompRestT _ _ _ _ _ _ _ _ _ _ _ _ _ _ _ _ _ _ _ _)); first | walk1 | (dsimp only; walk1)) | fail "no step"))
  refine ct_written w k3 (tl k3) way _ _ _ (key_len2 hk3) (hlk k3 hk3).2 mean mg mb _ _ _ _ _ _ _ _ _ _ _ _ _ _ _ B' F11 X' N11 T' rfl trivial ?_
  intro tw3 h12 q12 _ F12 N12
  clear F11 N11
  k_unfold
  refine LCg.CompEnd.intro F12 N12 _ (fun p hp => hp) off (.inr ⟨_, .tail _ (.head _), rfl, _, rfl⟩) ?_
  clear F12 N12 off ne hv hC hx
  refine LCg.CompRest.zero ?_
  (repeat' (first | (k_unfold; (try dsimp only)) | ((fail_if_success (with_reducible show wpAny _ _ (PySem.call (Value.ref _) _) _ _ _)); (fail_if_success (with_reducible show wpAny _ _ (subscriptTail _ _ (Value.ref _) (Value.int _ _)) _ _ _)); (fail_if_success (with_reducible show wpAny _ _ (subscriptTail _ _ (Value.ref _) (Value.str _ _)) _ _ _)); (fail_if_success (with_reducible show LCg.CompRest _ _ _ _ _ _ _ _ _ _ _ _ _ _ _ _ _ _ _)); (fail_if_success (with_reducible show LCt.CompRestT _ _ _ _ _ _ _ _ _ _ _ _ _ _ _ _ _ _ _ _)); first | walk1 | (dsimp only; walk1)) | fail "no step"))
  rename Fr g L _ _ => F20
  rename News g L _ _ => N20
  rw [two_if] at F20
  refine cont _ _ _ k0 t10 tw1 tw2 tw3 hk0 F20 ?_
  intro p hp
  rcases List.mem_cons.mp hp with rfl | hp
  · exact N20 _ (.head _)
  · exact N20 _ (.tail _ (.tail _ (.tail _ hp)))
end
end
section
open PySem PySem.W PyProof.Rows PySem.Calls PySem.Spec
open PySem PyProof.Rows
open PySem.Builtin PySem.Builtin.Str
/-- the signs of a text -/
noncomputable abbrev ls (x : Str) : List Nat := x.cps.toList
/-- pieces between the finds of u, from the left; the first k signs are passed over -/
noncomputable def splK (u : List Nat) : Nat → List Nat → List (List Nat)
  | _, [] => [[]]
  | k + 1, _ :: l => splK u k l
  | 0, c :: l => if u.isPrefixOf (c :: l) = true then [] :: splK u (u.length - 1) l else match splK u 0 l with
    | [] => [[c]]
    | p :: r => (c :: p) :: r
/-- pieces set one behind the other with z between -/
noncomputable def jn (z : List Nat) : List (List Nat) → List Nat
  | [] => []
  | [p] => p
  | p :: q :: r => p ++ z ++ jn z (q :: r)
/-- u becomes z -/
noncomputable def rpl (u z : List Nat) : Nat → List Nat → List Nat
  | _, [] => []
  | k + 1, _ :: l => rpl u z k l
  | 0, c :: l => if u.isPrefixOf (c :: l) = true then z ++ rpl u z (u.length - 1) l else c :: rpl u z 0 l
theorem splK_ne (u : List Nat) : ∀ (l : List Nat) (k : Nat), ∃ p r, splK u k l = p :: r
  | [], _ => ⟨[], [], by unfold splK; rfl⟩
  | _ :: l, k + 1 => by unfold splK; exact splK_ne u l k
  | c :: l, 0 => by
    unfold splK
    split
    · exact ⟨_, _, rfl⟩
    · obtain ⟨p, r, e⟩ := splK_ne u l 0
      rw [e]; exact ⟨_, _, rfl⟩
theorem splK_skip (u : List Nat) : ∀ (k : Nat) (l : List Nat), splK u k l = splK u 0 (l.drop k)
  | 0, l => by rw [List.drop_zero]
  | k + 1, [] => by rw [List.drop_nil]; unfold splK; rfl
  | k + 1, _ :: l => by rw [List.drop_succ_cons]; conv => lhs; unfold splK
                        exact splK_skip u k l
theorem jn_cons (z : List Nat) (c : Nat) (p : List Nat) : ∀ r, jn z ((c :: p) :: r) = c :: jn z (p :: r)
  | [] => rfl
  | _ :: _ => by simp [jn]
theorem jn_nil (z : List Nat) {p : List Nat} {r : List (List Nat)} : jn z ([] :: p :: r) = z ++ jn z (p :: r) := by simp [jn]
theorem rpl_eq (u z : List Nat) : ∀ (l : List Nat) (k : Nat), jn z (splK u k l) = rpl u z k l
  | [], _ => by unfold splK rpl; rfl
  | _ :: l, k + 1 => by unfold splK rpl; exact rpl_eq u z l k
  | c :: l, 0 => by
    unfold splK rpl
    split
    · obtain ⟨p, r, e⟩ := splK_ne u l (u.length - 1)
      rw [← rpl_eq u z l (u.length - 1), e, jn_nil]
    · obtain ⟨p, r, e⟩ := splK_ne u l 0
      rw [← rpl_eq u z l 0, e]
      exact jn_cons z c p r
theorem join_ls (z : Str) : ∀ parts : List Str, ls (Str.join z parts) = jn (ls z) (parts.map ls)
  | [] => rfl
  | [p] => rfl
  | p :: q :: r => by
    have ih := join_ls z (q :: r)
    show ls (p ++ z ++ Str.join z (q :: r)) = _
    simp only [ls, Str.cps_append, Array.toList_append] at ih ⊢
    rw [ih]
    simp [jn, ls]
theorem at_iff {x y : Str} {i : Nat} (hi : i ≤ x.length) (hy : 1 ≤ y.length) : StrLaws.At x y x.length i ↔ (ls y).isPrefixOf ((ls x).drop i) = true := by
  unfold StrLaws.At
  rw [StrLaws.subAt_eq, List.isPrefixOf_iff_prefix, List.prefix_iff_eq_take, beq_iff_eq]
  have hl : (ls y).length = y.length := by simp [ls, Str.length]
  have hx : (ls x).length = x.length := by simp [ls, Str.length]
  rw [hl]
  constructor
  · intro h; exact h.2.symm
  · intro h
    refine ⟨?_, h.symm⟩
    have := congrArg List.length h
    rw [hl, List.length_take, List.length_drop, hx] at this
    omega
theorem splK_free (u : List Nat) : ∀ (l : List Nat), (∀ i, i < l.length → u.isPrefixOf (l.drop i) = false) → splK u 0 l = [l]
  | [], _ => by unfold splK; rfl
  | c :: l, h => by
    have h0 := h 0 (Nat.zero_lt_succ _)
    rw [List.drop_zero] at h0
    have ih := splK_free u l fun i hi => by
      have := h (i + 1) (Nat.succ_lt_succ hi)
      rwa [List.drop_succ_cons] at this
    unfold splK
    rw [h0, ih]
    simp
theorem splK_first (u : List Nat) (hu : 1 ≤ u.length) : ∀ (d : Nat) (l : List Nat), d < l.length → (∀ i, i < d → u.isPrefixOf (l.drop i) = false) → u.isPrefixOf (l.drop d) = true → splK u 0 l = l.take d :: splK u 0 (l.drop (d + u.length))
  | _, [], h, _, _ => absurd h (Nat.not_lt_zero _)
  | 0, c :: l, _, _, h => by
    rw [List.drop_zero] at h
    conv => lhs; unfold splK
    rw [h, if_pos rfl, splK_skip]
    obtain ⟨n, e⟩ : ∃ n, u.length = n + 1 := ⟨u.length - 1, by omega⟩
    rw [e, Nat.zero_add, List.drop_succ_cons, Nat.add_sub_cancel]; rfl
  | d + 1, c :: l, hd, hn, h => by
    have h0 := hn 0 (Nat.zero_lt_succ _)
    rw [List.drop_zero] at h0
    rw [List.drop_succ_cons] at h
    have ih := splK_first u hu d l (Nat.lt_of_succ_lt_succ hd) (fun i hi => by
      have := hn (i + 1) (Nat.succ_lt_succ hi)
      rwa [List.drop_succ_cons] at this) h
    conv => lhs; unfold splK
    rw [h0, if_neg Bool.false_ne_true, ih]
    simp only [List.take_succ_cons]
    rw [show d + 1 + u.length = d + u.length + 1 by omega, List.drop_succ_cons]
theorem parts_splK {x y : Str} (hy : 1 ≤ y.length) : ∀ (cuts : List Nat) (a f : Nat), a ≤ x.length → StrLaws.ChainG x y x.length a cuts f → (∀ k, f ≤ k → ¬ StrLaws.At x y x.length k) → (StrLaws.partsFrom x y.length a cuts).map ls = splK (ls y) 0 ((ls x).drop a)
  | [], a, f, ha, h, hn => by
    have e : f = a := h
    subst e
    have hx : (ls x).length = x.length := by simp [ls, Str.length]
    rw [splK_free]
    · simp only [StrLaws.partsFrom, List.map_cons, List.map_nil]
      rw [ls, StrLaws.strSub_toList, List.take_of_length_le (by simp [Str.length])]
    · intro i hi
      rw [List.length_drop, hx] at hi
      rw [List.drop_drop]
      cases hb : (ls y).isPrefixOf ((ls x).drop (f + i)) with
      | false => rfl
      | true => exact absurd ((at_iff (by omega) hy).mpr hb) (hn _ (by omega))
  | c :: r, a, f, ha, h, hn => by
    obtain ⟨h1, h2, h3, h4⟩ := h
    have hx : (ls x).length = x.length := by simp [ls, Str.length]
    have hly : (ls y).length = y.length := by simp [ls, Str.length]
    have hc := h2.1
    have ih := parts_splK hy r (c + y.length) f hc h4 hn
    rw [splK_first (ls y) (by omega) (c - a)]
    · simp only [StrLaws.partsFrom, List.map_cons]
      rw [ih, List.drop_drop, hly, show a + (c - a + y.length) = c + y.length by omega]
      congr 1
      rw [ls, StrLaws.strSub_toList]
    · rw [List.length_drop, hx]; omega
    · intro i hi
      rw [List.drop_drop]
      cases hb : (ls y).isPrefixOf ((ls x).drop (a + i)) with
      | false => rfl
      | true => exact absurd ((at_iff (by omega) hy).mpr hb) (h3 _ (by omega) (by omega))
    · rw [List.drop_drop, show a + (c - a) = c by omega]
      exact (at_iff (by omega) hy).mp h2
theorem occ_parts {x y : Str} (hy : 1 ≤ y.length) : (partsBetween x (occurrences x y 0 x.length (x.length + 1)) y.length).map ls = splK (ls y) 0 (ls x) := by
  obtain ⟨f, h1, h2⟩ := StrLaws.occ_tight x y hy
  rw [StrLaws.partsBetween_eq, parts_splK hy _ 0 f (Nat.zero_le _) h1 h2, List.drop_zero]
theorem occ_empty {x y : Str} (hy : 1 ≤ y.length) (h : (occurrences x y 0 x.length (x.length + 1)).isEmpty = true) : splK (ls y) 0 (ls x) = [ls x] := by
  rw [← occ_parts hy, List.isEmpty_iff.mp h]
  simp only [StrLaws.partsBetween_eq, StrLaws.partsFrom, List.map_cons, List.map_nil]
  rw [StrLaws.sub_whole]
theorem replace_ls {x y z : Str} (hy : 1 ≤ y.length) : ls (Txt.replace x y z) = rpl (ls y) (ls z) 0 (ls x) := by
  unfold Txt.replace
  rw [← rpl_eq]
  split
  · rename_i h
    have h' : (occurrences x y 0 x.length (x.length + 1)).isEmpty = true := by
      rw [Bool.or_eq_true] at h
      rcases h with h | h
      · exact h
      · rw [Bool.and_eq_true, beq_iff_eq] at h; omega
    rw [occ_empty hy h']; rfl
  · rw [StrLaws.glued_eq_join, join_ls, occ_parts hy]
theorem split_ls {x y : Str} (hy : 1 ≤ y.length) (hk : PySem.Builtin.Str.strKind y = 1) : (Txt.split x y).map ls = splK (ls y) 0 (ls x) := by
  unfold Txt.split
  split
  · rename_i h
    rw [Bool.or_eq_true, decide_eq_true_iff, decide_eq_true_iff] at h
    have hl : x.length < y.length := by
      rcases h with h | h
      · exact h
      · rw [hk] at h
        exfalso
        revert h
        unfold PySem.Builtin.Str.strKind
        split
        · decide
        · split <;> decide
    rw [splK_free]
    · rfl
    · intro i hi
      cases hb : (ls y).isPrefixOf ((ls x).drop i) with
      | false => rfl
      | true =>
        have hx : (ls x).length = x.length := by simp [ls, Str.length]
        have := ((at_iff (x := x) (by omega) hy).mpr hb).1
        omega
  · split
    · rename_i h
      rw [occ_empty hy h]; rfl
    · exact occ_parts hy
end
section
open PySem PySem.W PyProof.Rows PySem.Calls PySem.Spec
open PySem PyProof.Rows
theorem len_ls (x : Str) : (ls x).length = x.length := by simp [ls, Str.length]
theorem str_ext {x y : Str} (h : ls x = ls y) : x = y := Str.ext' (Array.toList_inj.mp h)
theorem pre_len {u l : List Nat} (h : u.isPrefixOf l = true) : u.length ≤ l.length := (List.isPrefixOf_iff_prefix.mp h).length_le
theorem rpl_len (u z : List Nat) (hz : z.length ≤ u.length) (hu : 1 ≤ u.length) : ∀ (l : List Nat) (k : Nat), (rpl u z k l).length ≤ l.length - k
  | [], _ => by unfold rpl; simp
  | _ :: l, k + 1 => by
    unfold rpl
    have := rpl_len u z hz hu l k
    simp only [List.length_cons]; omega
  | c :: l, 0 => by
    unfold rpl
    split
    · rename_i h
      have := rpl_len u z hz hu l (u.length - 1)
      have h1 := pre_len h
      simp only [List.length_append, List.length_cons] at h1 ⊢; omega
    · have := rpl_len u z hz hu l 0
      simp only [List.length_cons]; omega
theorem rpl_dec (u z : List Nat) (hz : z.length < u.length) : ∀ (l : List Nat), rpl u z 0 l = l ∨ (rpl u z 0 l).length < l.length
  | [] => by left; unfold rpl; rfl
  | c :: l => by
    unfold rpl
    split
    · rename_i h
      right
      have := rpl_len u z (Nat.le_of_lt hz) (by omega) l (u.length - 1)
      have h1 := pre_len h
      simp only [List.length_append, List.length_cons] at h1 ⊢; omega
    · rcases rpl_dec u z hz l with h | h
      · left; rw [h]
      · right; simp only [List.length_cons]; omega
theorem replace_len {x y z : Str} (hy : 1 ≤ y.length) (hz : z.length ≤ y.length) : (Txt.replace x y z).length ≤ x.length := by
  have := rpl_len (ls y) (ls z) (by rw [len_ls, len_ls]; exact hz) (by rw [len_ls]; exact hy) (ls x) 0
  rw [← replace_ls hy, len_ls, len_ls] at this
  exact this
theorem replace_dec {x y z : Str} (hz : z.length < y.length) : (Txt.replace x y z == x) = true ∨ (Txt.replace x y z).length < x.length := by
  rcases rpl_dec (ls y) (ls z) (by rw [len_ls, len_ls]; exact hz) (ls x) with h | h
  · left
    rw [← replace_ls (by omega)] at h
    rw [beq_iff_eq]; exact str_ext h
  · right
    rw [← replace_ls (by omega), len_ls, len_ls] at h
    exact h
/-- one sign for one sign -/
theorem rpl_one (c d : Nat) : ∀ l : List Nat, rpl [c] [d] 0 l = l.map fun a => if a = c then d else a
  | [] => by unfold rpl; rfl
  | a :: l => by
    unfold rpl
    have ih := rpl_one c d l
    by_cases h : a = c
    · subst h
      simp [List.isPrefixOf, ih]
    · have : (c == a) = false := by rw [beq_eq_false_iff_ne]; exact fun e => h e.symm
      simp [List.isPrefixOf, this, ih, h]
/-- runs of hyphens to one -/
noncomputable def sqz : List Nat → List Nat
  | [] => []
  | c :: l => if c = 45 ∧ l.head? = some 45 then sqz l else c :: sqz l
theorem sqz_head : ∀ l : List Nat, (sqz l).head? = l.head?
  | [] => rfl
  | c :: l => by
    unfold sqz
    split
    · rename_i h
      rw [sqz_head l, h.2, h.1]; rfl
    · rfl
noncomputable abbrev DD : List Nat := [45, 45]
theorem dd_pre {c : Nat} {l : List Nat} : DD.isPrefixOf (c :: l) = true ↔ c = 45 ∧ l.head? = some 45 := by
  cases l with
  | nil => simp [DD, List.isPrefixOf]
  | cons d r => simp [DD, List.isPrefixOf]; exact ⟨fun h => ⟨h.1.symm, h.2.symm⟩, fun h => ⟨h.1.symm, h.2.symm⟩⟩
theorem rpp_head : ∀ l : List Nat, (rpl DD [45] 0 l).head? = l.head?
  | [] => by unfold rpl; rfl
  | c :: l => by
    unfold rpl
    split
    · rename_i h
      rw [(dd_pre.mp h).1]; rfl
    · rfl
theorem sqz_cons {a b : List Nat} (h1 : a.head? = b.head?) (h2 : sqz a = sqz b) (c : Nat) : sqz (c :: a) = sqz (c :: b) := by
  unfold sqz; rw [h1, h2]
theorem sqz_rpp : ∀ (n : Nat) (l : List Nat), l.length ≤ n → sqz (rpl DD [45] 0 l) = sqz l
  | _, [], _ => by unfold rpl; rfl
  | n + 1, c :: l, hn => by
    have hn : l.length ≤ n := by simpa using hn
    unfold rpl
    split
    · rename_i h
      obtain ⟨rfl, h2⟩ := dd_pre.mp h
      cases l with
      | nil => cases h2
      | cons d r =>
        have : d = 45 := by simpa using h2
        subst this
        have hr : rpl DD [45] (DD.length - 1) (45 :: r) = rpl DD [45] 0 r := by show rpl DD [45] 1 (45 :: r) = _; conv => lhs; unfold rpl
        rw [hr]
        show sqz (45 :: rpl DD [45] 0 r) = _
        rw [sqz_cons (rpp_head r) (sqz_rpp n r (by simp at hn; omega)) 45]
        conv => rhs; unfold sqz
        rw [if_pos ⟨rfl, rfl⟩]
    · exact sqz_cons (rpp_head l) (sqz_rpp n l hn) c
theorem rpp_fix : ∀ (l : List Nat), rpl DD [45] 0 l = l → sqz l = l
  | [], _ => rfl
  | c :: l, h => by
    unfold rpl at h
    split at h
    · rename_i hp
      exfalso
      have h1 := rpl_len DD [45] (by decide) (by decide) l (DD.length - 1)
      have h2 := congrArg List.length h
      have h3 := pre_len hp
      simp only [List.length_append, List.length_cons, List.length_nil] at h1 h2 h3
      omega
    · rename_i hp
      injection h with _ h
      unfold sqz
      rw [if_neg (fun q => hp (dd_pre.mpr q)), rpp_fix l h]
/-- hyphens at the end go -/
noncomputable def trl : List Nat → List Nat
  | [] => []
  | c :: l => if c = 45 ∧ trl l = [] then [] else c :: trl l
/-- the pieces between hyphens that hold something -/
noncomputable def nep (l : List Nat) : List (List Nat) := (splK [45] 0 l).filter fun p => p != []
theorem jn_nil_iff {ps : List (List Nat)} (h : ∀ p ∈ ps, p ≠ []) : jn [45] ps = [] ↔ ps = [] := by
  cases ps with
  | nil => simp [jn]
  | cons p r =>
    have hp := h p (.head _)
    cases r with
    | nil => simp [jn, hp]
    | cons q t => simp [jn]
theorem nep_ne (l : List Nat) : ∀ p ∈ nep l, p ≠ [] := fun p hp => by
  have := (List.mem_filter.mp hp).2
  simpa using this
theorem nep_hy (l : List Nat) : nep (45 :: l) = nep l := by
  unfold nep
  conv => lhs; unfold splK
  simp [List.isPrefixOf]
theorem spl_c {c : Nat} (h : c ≠ 45) (l : List Nat) {p : List Nat} {r : List (List Nat)} (e : splK [45] 0 l = p :: r) : splK [45] 0 (c :: l) = (c :: p) :: r := by
  unfold splK
  have : ([45] : List Nat).isPrefixOf (c :: l) = false := by simp [List.isPrefixOf]; exact fun q => h q.symm
  rw [this, e]; simp
theorem spl_head_hy (l : List Nat) (h : l.head? = some 45) : ∃ r, splK [45] 0 l = [] :: r := by
  cases l with
  | nil => cases h
  | cons c t =>
    have : c = 45 := by simpa using h
    subst this
    unfold splK
    simp [List.isPrefixOf]
theorem spl_head_no (l : List Nat) (h : l ≠ []) (h2 : l.head? ≠ some 45) : ∃ p r, splK [45] 0 l = p :: r ∧ p ≠ [] := by
  cases l with
  | nil => exact absurd rfl h
  | cons c t =>
    have hc : c ≠ 45 := fun q => h2 (by rw [q]; rfl)
    obtain ⟨p, r, e⟩ := splK_ne [45] t 0
    exact ⟨_, _, spl_c hc t e, List.cons_ne_nil _ _⟩
theorem fold_eq : ∀ l : List Nat, trl (sqz l) = (if l.head? = some 45 ∧ nep l ≠ [] then [45] else []) ++ jn [45] (nep l)
  | [] => by simp [sqz, trl, nep, splK, jn]
  | c :: l => by
    have ih := fold_eq l
    by_cases hc : c = 45
    · subst hc
      rw [nep_hy]
      by_cases hh : l.head? = some 45
      · have : sqz (45 :: l) = sqz l := by conv => lhs; unfold sqz
                                           rw [if_pos ⟨rfl, hh⟩]
        rw [this, ih]
        simp [hh]
      · have : sqz (45 :: l) = 45 :: sqz l := by conv => lhs; unfold sqz
                                                 rw [if_neg (fun q => hh q.2)]
        rw [this]
        unfold trl
        rw [ih]
        rw [if_neg (show ¬ (l.head? = some 45 ∧ nep l ≠ []) from fun q => hh q.1), List.nil_append]
        by_cases hn : nep l = []
        · rw [hn]; simp [jn]
        · have : jn [45] (nep l) ≠ [] := fun q => hn ((jn_nil_iff (nep_ne l)).mp q)
          simp [hn, this]
    · have : sqz (c :: l) = c :: sqz l := by conv => lhs; unfold sqz
                                             rw [if_neg (fun q => hc q.1)]
      rw [this]
      have h2 : trl (c :: sqz l) = c :: trl (sqz l) := by conv => lhs; unfold trl
                                                          rw [if_neg (fun q => hc q.1)]
      rw [h2, ih]
      rw [if_neg (show ¬ ((c :: l).head? = some 45 ∧ nep (c :: l) ≠ []) from fun q => hc (by simpa using q.1)), List.nil_append]
      obtain ⟨p, r, e⟩ := splK_ne [45] l 0
      have e2 : nep (c :: l) = (c :: p) :: r.filter fun p => p != [] := by
        unfold nep; rw [spl_c hc l e]; simp
      have e3 : nep l = (if p = [] then [] else [p]) ++ r.filter fun p => p != [] := by
        unfold nep; rw [e]
        by_cases hp : p = [] <;> simp [hp]
      rw [e2]
      by_cases hh : l.head? = some 45
      · obtain ⟨r', e4⟩ := spl_head_hy l hh
        rw [e] at e4
        injection e4 with e5 e6
        subst e5
        have e3' : nep l = r.filter fun p => p != [] := by rw [e3]; rfl
        rw [← e3']
        cases hr : nep l with
        | nil => simp [jn]
        | cons q t => simp [hh, jn]
      · rw [if_neg (show ¬ (l.head? = some 45 ∧ nep l ≠ []) from fun q => hh q.1), List.nil_append]
        by_cases hl : l = []
        · subst hl
          have : splK [45] 0 [] = [[]] := by unfold splK; rfl
          rw [this] at e
          injection e with e5 e6
          subst e5 e6
          rw [e3]; simp [jn]
        · obtain ⟨p', r', e4, hp⟩ := spl_head_no l hl hh
          rw [e] at e4
          injection e4 with e5 e6
          subst e5
          rw [e3, if_neg hp]
          rw [jn_cons]; rfl
end
section
open PySem PySem.W PyProof.Rows PySem.Calls PySem.Spec
open PySem PyProof.Rows
theorem slice_last {x : Str} (h : x.length ≠ 0) : ls (Txt.slice x none (some (-1))) = (ls x).take (x.length - 1) := by
  have e : Txt.slice x none (some (-1)) = StrLaws.sliceText x none (some (-1)) := rfl
  rw [e, StrLaws.sliceText_to_neg (by decide) (by omega)]
  simp only [List.drop_zero, ls, List.toList_toArray]
  congr 1
  omega
theorem cut_len (x : Str) (h : x.length ≠ 0) : (Txt.slice x none (some (-1))).length < x.length := by
  rw [← len_ls, slice_last h, List.length_take, len_ls]
  omega
theorem slice_first (x : Str) : ls (Txt.slice x none (some 1)) = (ls x).take 1 := by
  have e : Txt.slice x none (some 1) = StrLaws.sliceText x none (some 1) := rfl
  by_cases h : x.length = 0
  · have hx : ls x = [] := List.length_eq_zero_iff.mp (by rw [len_ls]; exact h)
    have : x = ⟨#[]⟩ := str_ext hx
    subst this
    rfl
  · rw [e, StrLaws.sliceText_to ⟨by decide, by have := len_ls x; simp only [ls] at this; rw [this]; omega⟩]
    simp [ls]
theorem trl_snoc (l : List Nat) : trl (l ++ [45]) = trl l := by
  induction l with
  | nil => rfl
  | cons c l ih =>
    show trl (c :: (l ++ [45])) = trl (c :: l)
    conv => lhs; unfold trl
    conv => rhs; unfold trl
    rw [ih]
theorem trl_keep (l : List Nat) {c : Nat} (h : c ≠ 45) : trl (l ++ [c]) = l ++ [c] := by
  induction l with
  | nil => show trl [c] = [c]; unfold trl; rw [if_neg (fun q => h q.1)]; rfl
  | cons d l ih =>
    show trl (d :: (l ++ [c])) = _
    unfold trl
    rw [ih, if_neg (fun q => absurd q.2 (by simp))]; rfl
theorem item_last {x : Str} (h : x.length ≠ 0) {l : List Nat} {c : Nat} (e : ls x = l ++ [c]) : Txt.item x (-1) = ⟨#[c]⟩ := by
  unfold Txt.item Txt.charAt
  have hl : x.length = l.length + 1 := by rw [← len_ls, e]; simp
  rw [StrLaws.at_neg (n := c) (by decide) (by omega)]
  · rfl
  · rw [← Array.getElem?_toList]
    show (ls x)[_]? = _
    rw [e, hl, show (-1 + ((l.length + 1 : Nat) : Int)).toNat = l.length by omega]
    simp
end
section
open PySem PySem.W PyProof.Rows PySem.Calls PySem.Spec
open PySem PyProof.Rows
noncomputable abbrev sp (c : Nat) : Bool := Unicode.isSpace c
/-- blanks at both ends go -/
noncomputable def trimL (l : List Nat) : List Nat := ((l.dropWhile sp).reverse.dropWhile sp).reverse
theorem drop_takeWhile (p : Nat → Bool) : ∀ l : List Nat, l.drop (l.takeWhile p).length = l.dropWhile p
  | [] => rfl
  | a :: r => by
    by_cases h : p a = true
    · rw [List.takeWhile_cons_of_pos h, List.dropWhile_cons_of_pos h, List.length_cons, List.drop_succ_cons, drop_takeWhile p r]
    · rw [List.takeWhile_cons_of_neg h, List.dropWhile_cons_of_neg h]; rfl
theorem strip_ls (x : Str) : ls (Txt.strip x) = trimL (ls x) := by
  unfold Txt.strip trimL
  rw [PyProof.Rows.stripBy_eq, ls, StrLaws.strSub_toList]
  have e1 : stripLo Unicode.isSpace true x = ((ls x).takeWhile sp).length := rfl
  rw [e1, drop_takeWhile]
  have e2 : stripHi Unicode.isSpace true x ((ls x).takeWhile sp).length = x.length - (((ls x).dropWhile sp).reverse.takeWhile sp).length := by
    show x.length - (((ls x).drop ((ls x).takeWhile sp).length).reverse.takeWhile sp).length = _
    rw [drop_takeWhile]
  rw [e2]
  have e3 : ((ls x).takeWhile sp).length + ((ls x).dropWhile sp).length = x.length := by
    rw [← List.length_append, List.takeWhile_append_dropWhile, len_ls]
  generalize (ls x).dropWhile sp = d at *
  rw [← drop_takeWhile sp d.reverse, List.reverse_drop, List.reverse_reverse, List.length_reverse]
  congr 1
  omega
theorem trim_keep {a z : Nat} {m l : List Nat} (h1 : l = a :: m) (ha : sp a = false) {n : List Nat} (h2 : l = n ++ [z]) (hz : sp z = false) : trimL l = l := by
  unfold trimL
  have e1 : l.dropWhile sp = l := by rw [h1, List.dropWhile_cons_of_neg (by rw [ha]; exact Bool.false_ne_true)]
  have e2 : l.reverse.dropWhile sp = l.reverse := by rw [h2, List.reverse_append, List.reverse_singleton, List.singleton_append, List.dropWhile_cons_of_neg (by rw [hz]; exact Bool.false_ne_true)]
  rw [e1, e2, List.reverse_reverse]
theorem trim_blank (l : List Nat) : trimL (32 :: l) = trimL l := by
  unfold trimL
  rw [List.dropWhile_cons_of_pos (show sp 32 = true by decide +kernel)]
theorem trim_last {l : List Nat} (h : trimL l = l) (hn : l ≠ []) : ∃ n z, l = n ++ [z] ∧ sp z = false := by
  unfold trimL at h
  generalize (l.dropWhile sp).reverse = d at h
  cases hd : d.dropWhile sp with
  | nil => rw [hd] at h; exact absurd h.symm hn
  | cons z m =>
    refine ⟨m.reverse, z, by rw [← h, hd, List.reverse_cons], ?_⟩
    have := List.head?_dropWhile_not sp d
    rw [hd] at this
    simpa using this
/-- the parse from any state -/
noncomputable def hf (c : HSt) (l : List Nat) : HSt := (l.map fun (n : Nat) => (n : Int)).foldl hstep c
theorem hf_nil (c : HSt) : hf c [] = c := rfl
theorem hf_cons (c : HSt) (n : Nat) (l : List Nat) : hf c (n :: l) = hf (hstep c (n : Int)) l := rfl
theorem hf_app (c : HSt) (a b : List Nat) : hf c (a ++ b) = hf (hf c a) b := by unfold hf; rw [List.map_append, List.foldl_append]
theorem hrun_ls (x : Str) : hrun (KStt.codes x) = hf ([], S "", false, false) (ls x) := rfl
theorem sg (n : Nat) : S "," = ⟨#[44]⟩ ∧ S "\"" = ⟨#[34]⟩ ∧ S "\\" = ⟨#[92]⟩ ∧ ((n : Int).toNat = n) := ⟨rfl, rfl, rfl, rfl⟩
theorem st_bare {res : List Str} {p : Str} {n : Nat} (h1 : n ≠ 44) (h2 : n ≠ 34) : hstep (res, p, false, false) (n : Int) = (res, p ++ ⟨#[n]⟩, false, false) := by
  obtain ⟨e1, e2, e3, e4⟩ := sg n
  unfold hstep
  simp only [e1, e2, e3, e4, one_eq, beq_iff_eq, if_neg h1, if_neg h2, Bool.false_eq_true, if_false]
theorem st_comma {res : List Str} {p : Str} : hstep (res, p, false, false) 44 = (res ++ [p], S "", false, false) := rfl
theorem st_open {res : List Str} {p : Str} : hstep (res, p, false, false) 34 = (res, p ++ S "\"", false, true) := rfl
theorem st_close {res : List Str} {p : Str} : hstep (res, p, false, true) 34 = (res, p ++ S "\"", false, false) := rfl
theorem st_back {res : List Str} {p : Str} : hstep (res, p, false, true) 92 = (res, p, true, true) := rfl
theorem st_esc {res : List Str} {p : Str} {n : Nat} : hstep (res, p, true, true) (n : Int) = (res, p ++ ⟨#[n]⟩, false, true) := rfl
theorem st_in {res : List Str} {p : Str} {n : Nat} (h1 : n ≠ 92) (h2 : n ≠ 34) : hstep (res, p, false, true) (n : Int) = (res, p ++ ⟨#[n]⟩, false, true) := by
  obtain ⟨e1, e2, e3, e4⟩ := sg n
  unfold hstep
  simp only [e1, e2, e3, e4, one_eq, beq_iff_eq, if_neg h1, if_neg h2, Bool.false_eq_true, if_false, if_true]
theorem app_one (p : Str) (n : Nat) (l : List Nat) : p ++ ⟨#[n]⟩ ++ ⟨l.toArray⟩ = p ++ ⟨(n :: l).toArray⟩ := by
  refine str_ext ?_
  simp [ls, Str.cps_append]
theorem app_nil (p : Str) : p ++ ⟨([] : List Nat).toArray⟩ = p := by
  refine str_ext ?_
  simp [ls, Str.cps_append]
theorem run_bare {res : List Str} : ∀ (l : List Nat) (p : Str), (∀ c ∈ l, c ≠ 44 ∧ c ≠ 34) → hf (res, p, false, false) l = (res, p ++ ⟨l.toArray⟩, false, false)
  | [], p, _ => by rw [hf_nil, app_nil]
  | n :: l, p, h => by
    rw [hf_cons, st_bare (h n (.head _)).1 (h n (.head _)).2, run_bare l _ fun c hc => h c (.tail _ hc), app_one]
theorem run_esc {res : List Str} (way : Int) : ∀ (l : List Nat) (p : Str), hf (res, p, false, true) (l.flatMap (escOne way)) = (res, p ++ ⟨l.toArray⟩, false, true)
  | [], p => by rw [List.flatMap_nil, hf_nil, app_nil]
  | n :: l, p => by
    rw [List.flatMap_cons, hf_app]
    have e : hf (res, p, false, true) (escOne way n) = (res, p ++ ⟨#[n]⟩, false, true) := by
      unfold escOne
      split
      · rw [hf_cons, hf_cons, hf_nil]
        show hstep (hstep (res, p, false, true) 92) (n : Int) = _
        rw [st_back, st_esc]
      · rename_i h
        rw [hf_cons, hf_nil]
        exact st_in (fun q => h (.inr (.inr q))) (fun q => h (.inr (.inl q)))
    rw [e, run_esc way l, app_one]
/-- when a value is told bare -/
noncomputable abbrev bareC (v : Str) (way : Int) : Prop := way = 2 ∧ (v != S "") = true ∧ (v == Txt.strip v) = true ∧ (Builtin.Str.occurrences v (S "\"") 0 v.length 1).isEmpty = true
/-- the value as the header's piece bears it -/
noncomputable def valS (v : Str) (way : Int) : Str := if bareC v way then v else S "\"" ++ v ++ S "\""
noncomputable def pieceS (k v : Str) (way : Int) : Str := k ++ S "=" ++ valS v way
theorem wr_eq (k v : Str) (way : Int) : wr k v way = if bareC v way then k ++ S "=" ++ v else k ++ S "=\"" ++ escI way (KStt.codes v) ++ S "\"" := rfl
theorem no_quote {v : Str} (h : (Builtin.Str.occurrences v (S "\"") 0 v.length 1).isEmpty = true) : 34 ∉ ls v := fun hm => by
  have := StrLaws.found_one v 34
  rw [decide_eq_true hm] at this
  rw [show (⟨#[34]⟩ : Str) = S "\"" from rfl, h] at this
  exact absurd this (by decide)
theorem ls_app (a b : Str) : ls (a ++ b) = ls a ++ ls b := by simp [ls, Str.cps_append]
theorem mk_ls (x : Str) : (⟨(ls x).toArray⟩ : Str) = x := str_ext (by simp [ls])
theorem ls_esc (way : Int) (v : Str) : ls (escI way (KStt.codes v)) = (ls v).flatMap (escOne way) := by
  unfold escI KStt.codes
  simp only [ls, List.flatMap_map]
  rfl
/-- a key: plain signs, no blank at its head -/
structure KeyOk (k : Str) : Prop where
  plain : ∀ c ∈ ls k, c ≠ 44 ∧ c ≠ 34 ∧ c ≠ 61 ∧ c < 128
  head : ∃ a m, ls k = a :: m ∧ sp a = false
theorem key_ok {k : Str} (h : k ∈ keyL) : KeyOk k := by
  simp only [keyL, List.mem_cons, List.not_mem_nil, or_false] at h
  rcases h with rfl | rfl | rfl
  · exact ⟨by decide, _, _, rfl, by decide +kernel⟩
  · exact ⟨by decide, _, _, rfl, by decide +kernel⟩
  · exact ⟨by decide, _, _, rfl, by decide +kernel⟩
theorem run_piece {k v : Str} {way : Int} (hk : KeyOk k) (hv : bareC v way → 44 ∉ ls v) (res : List Str) (p : Str) : hf (res, p, false, false) (ls (wr k v way)) = (res, p ++ pieceS k v way, false, false) := by
  rw [wr_eq]
  unfold pieceS valS
  by_cases h : bareC v way
  · rw [if_pos h, if_pos h, run_bare, mk_ls]
    intro c hc
    rw [ls_app, ls_app] at hc
    rcases List.mem_append.mp hc with hc | hc
    · rcases List.mem_append.mp hc with hc | hc
      · exact ⟨(hk.plain c hc).1, (hk.plain c hc).2.1⟩
      · have : c = 61 := List.mem_singleton.mp (show c ∈ [61] from hc)
        subst this; decide
    · exact ⟨fun q => hv h (q ▸ hc), fun q => no_quote h.2.2.2 (q ▸ hc)⟩
  · rw [if_neg h, if_neg h, ls_app, ls_app, ls_app, ls_esc, hf_app, hf_app, hf_app, run_bare _ _ fun c hc => ⟨(hk.plain c hc).1, (hk.plain c hc).2.1⟩, mk_ls]
    rw [show ls (S "=\"") = [61, 34] from rfl, hf_cons, hf_cons, hf_nil, st_bare (by decide) (by decide)]
    show hf (hf (hstep (res, p ++ k ++ ⟨#[61]⟩, false, false) 34) _) _ = _
    rw [st_open, run_esc, mk_ls, show ls (S "\"") = [34] from rfl, hf_cons, hf_nil]
    show hstep (res, p ++ k ++ ⟨#[61]⟩ ++ S "\"" ++ v, false, true) 34 = _
    rw [st_close]
    refine congrArg (fun z => (res, z, false, false)) (str_ext ?_)
    simp only [ls_app, List.append_assoc]
    rfl
end
section
open PySem PySem.W PyProof.Rows PySem.Calls PySem.Spec
/-- the value as parse_keqv_list keeps it -/
noncomputable def unq (v : Str) : Str := if (Txt.item v 0 == Str.ofString "\"" && Txt.item v (-1) == Str.ofString "\"") = true then Txt.slice v (some 1) (some (-1)) else v
noncomputable abbrev mKq (P : Addr) (r : Str → Option Value) : Str → Option Value := fun y => if y = Str.ofString "parsed" then some (.ref P) else r y
theorem mKq_of {m : Str → Option Value} {P : Addr} (h1 : m (Str.ofString "parsed") = some (.ref P)) : m = mKq P m := by
  funext y
  unfold mKq
  by_cases e1 : y = Str.ofString "parsed"
  · rw [if_pos e1, e1, h1]
  · rw [if_neg e1]
noncomputable abbrev kqSc : Scope := { kind := .function, names := [(Str.ofString "l", .local), (Str.ofString "parsed", .local), (Str.ofString "elt", .local), (Str.ofString "k", .local), (Str.ofString "v", .local)], isGenerator := false, isCoroutine := false }
noncomputable abbrev kqEnv (L : Addr) : Env := envOf (Str.ofString "parse_keqv_list") kqSc L 35 (.ref 34)
noncomputable abbrev kqBody : List Stmt := [.Assign [.Tuple [.Name (Str.ofString "k") ⟨46, 8, 46, 9⟩, .Name (Str.ofString "v") ⟨46, 11, 46, 12⟩] 0 ⟨46, 8, 46, 12⟩] (.Call (.Attribute (.Name (Str.ofString "elt") ⟨46, 15, 46, 18⟩) (Str.ofString "split") ⟨46, 15, 46, 24⟩) [.Constant (.str (Str.ofString "=")) 0 ⟨46, 25, 46, 28⟩, .Constant (.int 1) 0 ⟨46, 30, 46, 31⟩] [] ⟨46, 15, 46, 32⟩) ⟨46, 8, 46, 32⟩,
  .If (.BoolOp .And [.Compare (.Subscript (.Name (Str.ofString "v") ⟨47, 11, 47, 12⟩) (.Constant (.int 0) 0 ⟨47, 13, 47, 14⟩) ⟨47, 11, 47, 15⟩) [.Eq] [.Constant (.str (Str.ofString "\"")) 0 ⟨47, 19, 47, 22⟩] ⟨47, 11, 47, 22⟩, .Compare (.Subscript (.Name (Str.ofString "v") ⟨47, 27, 47, 28⟩) (.UnaryOp .USub (.Constant (.int 1) 0 ⟨47, 30, 47, 31⟩) ⟨47, 29, 47, 31⟩) ⟨47, 27, 47, 32⟩) [.Eq] [.Constant (.str (Str.ofString "\"")) 0 ⟨47, 36, 47, 39⟩] ⟨47, 27, 47, 39⟩] ⟨47, 11, 47, 39⟩)
    [.Assign [.Name (Str.ofString "v") ⟨48, 12, 48, 13⟩] (.Subscript (.Name (Str.ofString "v") ⟨48, 16, 48, 17⟩) (.Slice (some (.Constant (.int 1) 0 ⟨48, 18, 48, 19⟩)) (some (.UnaryOp .USub (.Constant (.int 1) 0 ⟨48, 21, 48, 22⟩) ⟨48, 20, 48, 22⟩)) none ⟨48, 18, 48, 22⟩) ⟨48, 16, 48, 23⟩) ⟨48, 12, 48, 23⟩] [] ⟨47, 8, 48, 23⟩,
  .Assign [.Subscript (.Name (Str.ofString "parsed") ⟨49, 8, 49, 14⟩) (.Name (Str.ofString "k") ⟨49, 15, 49, 16⟩) ⟨49, 8, 49, 17⟩] (.Name (Str.ofString "v") ⟨49, 20, 49, 21⟩) ⟨49, 8, 49, 21⟩]
theorem two_of {l : List (Str × Tok)} {a b : Str} (h : l.map (fun x => x.1) = [a, b]) : ∃ t u, l = [(a, t), (b, u)] := by
  match l, h with
  | [(x, t), (y, u)], h =>
    simp only [List.map_cons, List.map_nil, List.cons.injEq, and_true] at h
    obtain ⟨rfl, rfl⟩ := h
    exact ⟨t, u, rfl⟩
/-- the pairs, one text behind the other -/
noncomputable def kqD (l : List (Str × Str)) : List (PyData × PyData) := l.foldl (fun D p => PyProof.V.putD (.str p.1) (.str (unq p.2)) D) []
theorem kqD_snoc (l : List (Str × Str)) (p : Str × Str) : kqD (l ++ [p]) = PyProof.V.putD (.str p.1) (.str (unq p.2)) (kqD l) := by
  unfold kqD; rw [List.foldl_append]; rfl
theorem kqD_len (l : List (Str × Str)) : (kqD l).length ≤ l.length := by
  unfold kqD
  suffices h : ∀ (l : List (Str × Str)) (D : List (PyData × PyData)), (l.foldl (fun D p => PyProof.V.putD (.str p.1) (.str (unq p.2)) D) D).length ≤ D.length + l.length by simpa using h l []
  intro l
  induction l with
  | nil => intro D; exact Nat.le_refl _
  | cons p r ih =>
    intro D
    rw [List.foldl_cons, List.length_cons]
    have h1 := ih (PyProof.V.putD (.str p.1) (.str (unq p.2)) D)
    have h2 := PyProof.V.putD_length_le (.str p.1) (.str (unq p.2)) D
    omega
section
variable {w : World} {E : Value → Shared → Prop} {s : Shared} {g : Heap} {L D P : Addr} {cn : Str} {cs : Scope} {L0 a : Addr} {ccd : Value} {cl : List (Str × Addr)} {outer : List Env} {Q : Flow → Shared → Prop}
noncomputable abbrev KqInv (w : World) (P D : Addr) (vs : List Value) (n : Nat) (rest : List (Addr × Obj)) (ps : List (Str × Str)) : Nat → (Str → Option Value) → List (Addr × Obj) → Prop :=
  fun i m news => ∃ r o kvs, m = mKq P r ∧ news = (P, o) :: (D, listOf vs.toArray n) :: rest ∧ o.IsDictOf (strKind PP w) kvs ∧ PyProof.V.FlatPairs PyData.str kvs (kqD (ps.take i))
theorem kq_set {A : Around} {h : Heap} {tk : Nat} {m' : Str → Option Value} {q it : Addr} {lo io o9 : Obj} {vs : List Value} {n : Nat} {rest : List (Addr × Obj)} {kvs : List (Str × Value)} {ps : List (Str × Str)} {p : Str × Str} {i : Nat} {v' : Str} {ta tb : Tok} {E' : Value → Shared → Prop}
    (F : Fr g L h m') (N : News g L h ((q, lo) :: (it, io) :: (P, o9) :: (D, listOf vs.toArray n) :: rest)) (hm : m' (Str.ofString "parsed") = some (.ref P)) (hqP : q ≠ P) (hDl : D ≠ P) (hrl : ∀ p ∈ rest, p.1 ≠ P)
    (hne : ∀ p ∈ (P, o9) :: (D, listOf vs.toArray n) :: rest, p.1 ≠ it) (ho : o9.IsDictOf (strKind PP w) kvs) (hf : PyProof.V.FlatPairs PyData.str kvs (kqD (ps.take i))) (hp : ps[i]? = some p) (hps : ps.length ≤ 10) (e : unq p.2 = v') :
    wpAny (model PP w) A (setItem (.ref P) (.str p.1 ta) (.str v' tb)) (fun _ s' => ForStep s g L it io (KqInv w P D vs n rest ps) i .next s') E' { s with heap := h, toks := tk } := by
  refine setItem_madeIn (own := [(q, lo), (it, io)]) (rest := (D, listOf vs.toArray n) :: rest) PyProof.V.same_str (strKind_is _ _ _ _) (PyProof.V.Flat.str v' tb) F N ?_ ?_ ho hf (fun h2 o2 F2 N2 ho2 hf2 => ?_) ?_
  · intro r hr
    rcases List.mem_cons.mp hr with rfl | hr
    · exact hqP
    · rw [List.mem_singleton.mp hr]; exact fun q => hne (P, o9) (.head _) q.symm
  · intro r hr
    rcases List.mem_cons.mp hr with rfl | hr
    · exact hDl
    · exact hrl r hr
  · have et : ps.take (i + 1) = ps.take i ++ [p] := by
      obtain ⟨hi, rfl⟩ := List.getElem?_eq_some_iff.mp hp
      rw [List.take_succ_eq_append_getElem hi]
    refine ForStep.intro ((P, o2) :: (D, listOf vs.toArray n) :: rest) F2 (fun r hr => N2 r (.tail _ hr)) ?_ ⟨_, o2, _, mKq_of hm, rfl, ho2, ?_⟩
    · intro r hr
      rcases List.mem_cons.mp hr with rfl | hr
      · exact hne (P, o9) (.head _)
      · exact hne r (.tail _ hr)
    · rw [et, kqD_snoc, e]; exact hf2
  · have h1 := kqD_len (ps.take i)
    rw [List.length_take] at h1
    exact Nat.le_trans (show _ ≤ 10 by omega) (by decide)
set_option maxRecDepth 100000 in
set_option maxHeartbeats 2000000 in
theorem kq_loop {r : Str → Option Value} {vs : List Value} {xs : List Str} {ps : List (Str × Str)} {n : Nat} {rest : List (Addr × Obj)} {o : Obj} (hv : StrsAre vs xs) (hxp : xs.length = ps.length) (hx : ∀ (i : Nat) (x : Str) (p : Str × Str), xs[i]? = some x → ps[i]? = some p → Txt.splitMax x (Str.ofString "=") 1 = [p.1, p.2] ∧ p.2.length ≠ 0 ∧ x.length ≤ 1000) (hp : ps.length ≤ 10)
    (F : Fr g L s.heap (mKq P r)) (N : News g L s.heap ((P, o) :: (D, listOf vs.toArray n) :: rest)) (ho : o.IsDictOf (strKind PP w) []) (hf : PyProof.V.FlatPairs PyData.str ([] : List (Str × Value)) [])
    (hr : r (Str.ofString "l") = some (.ref D)) (hDl : D ≠ P) (hrl : ∀ p ∈ rest, p.1 ≠ P)
    (hQ : ∀ h tk r' o' kvs, o'.IsDictOf (strKind PP w) kvs → PyProof.V.FlatPairs PyData.str kvs (kqD ps) → Fr g L h (mKq P r') → News g L h ((P, o') :: (D, listOf vs.toArray n) :: rest) → Q .next { s with heap := h, toks := tk }) :
    wpAny (model PP w) ((A2 cn cs L0 a ccd cl outer).deeper (kqEnv L)) (exec (.For (.Name (Str.ofString "elt") ⟨45, 8, 45, 11⟩) (.Name (Str.ofString "l") ⟨45, 15, 45, 16⟩) kqBody [] ⟨45, 4, 49, 21⟩) (kqEnv L)) Q E s := by
  (w_top off; k_with_none; (have hz9 : PySem.Challenge.rw_mj0138_01 = PySem.Challenge.rw_mj0138_01 ∧ hd.heap_39 = hd.heap_39 := by (k_fill; exact ⟨rfl, rfl⟩)); clear hz9)
  have hlen : vs.length = xs.length := hv.length
  refine for_items (D := D) (vs := vs) (cnt := n) rfl rfl rfl (KqInv w P D vs n rest ps) F N ⟨r, o, [], rfl, rfl, ho, hf⟩ ?_ ?_ ?_ ?_
  · rintro i m news ⟨r, o, kvs, rfl, rfl, _, _⟩
    exact .tail _ (.head _)
  · intro Q' hq
    exact wpAny_Name (wpAny_loadName_local rfl rfl F.ns hr hq)
  · rintro i v9 m' news' h tk it io E' hv9 ⟨r9, o9, kvs, rfl, rfl, ho9, hf9⟩ F1 N1 hne
    have hi : i < xs.length := by
      rw [← hlen]; exact (List.getElem?_eq_some_iff.mp hv9).1
    obtain ⟨x, hx1⟩ : ∃ x, xs[i]? = some x := ⟨_, List.getElem?_eq_getElem hi⟩
    obtain ⟨p, hp1⟩ : ∃ p, ps[i]? = some p := ⟨_, List.getElem?_eq_getElem (hxp ▸ hi)⟩
    obtain ⟨t9, e9⟩ := hv.at hx1
    rw [hv9] at e9
    obtain rfl := Option.some.inj e9
    obtain ⟨hsp, hz, hxl⟩ := hx i x p hx1 hp1
    have hP9 : @LT.lt Nat _ P h.objs.size := Heap.lt_size (N1 _ (.tail _ (.head _))).1
    clear F N
    (repeat' (first | (k_unfold; (try dsimp only)) | walk1 | (dsimp only; walk1) | fail "no step"))
    rename List (Str × Tok) => l9
    rename (List.map _ l9 = Txt.splitMax _ _ _) => hM
    rw [hsp] at hM
    obtain ⟨ta, tb, rfl⟩ := two_of hM
    rename (∀ b ∈ List.map _ _, _) => hB
    have hk1 : p.1.length ≤ x.length := hB _ (.head _)
    have hv1 : p.2.length ≤ x.length := hB _ (.tail _ (.head _))
    clear hB hM
    simp only [strValues, List.map_cons, List.map_nil] at *
    rename Fr g L _ _ => F2
    rename News g L _ _ => N2
    refine kun_list F2 N2 (News.isList N2 (.head _)) rfl rfl rfl fun h3 F3 N3 => ?_
    clear F2 N2
    (repeat' (first | (k_unfold; (try dsimp only)) | walk1 | (dsimp only; walk1) | fail "no step"))
    · rename (Txt.item p.2 0 == _) = true => hb1
      rename (Txt.item p.2 (-1) == _) = true => hb2
      rename Fr g L _ (fun y => ite (y = Str.ofString "v") _ (ite (y = Str.ofString "v") _ _)) => F4
      rename News g L _ _ => N4
      exact wpAny_mono (kq_set F4 N4 rfl (Nat.ne_of_gt hP9) hDl hrl hne ho9 hf9 hp1 hp (if_pos (by rw [hb1, hb2]; rfl))) (fun _ _ h => wpAny_execs_nil h) fun _ _ h => h
    · rename (Txt.item p.2 0 == _) = true => hb1
      rename (Txt.item p.2 (-1) == _) = false => hb2
      rename Fr g L _ (fun y => ite (y = Str.ofString "v") _ _) => F4
      rename News g L _ _ => N4
      exact wpAny_mono (kq_set F4 N4 rfl (Nat.ne_of_gt hP9) hDl hrl hne ho9 hf9 hp1 hp (if_neg (by rw [hb2, Bool.and_false]; exact Bool.false_ne_true))) (fun _ _ h => wpAny_execs_nil h) fun _ _ h => h
    · rename (Txt.item p.2 0 == _) = false => hb1
      rename Fr g L _ (fun y => ite (y = Str.ofString "v") _ _) => F4
      rename News g L _ _ => N4
      exact wpAny_mono (kq_set F4 N4 rfl (Nat.ne_of_gt hP9) hDl hrl hne ho9 hf9 hp1 hp (if_neg (by rw [hb1, Bool.false_and]; exact Bool.false_ne_true))) (fun _ _ h => wpAny_execs_nil h) fun _ _ h => h
  · rintro h tk m' news' ⟨r9, o9, kvs, rfl, rfl, ho9, hf9⟩ F1 N1
    rw [List.take_of_length_le (by omega)] at hf9
    exact hQ h tk r9 o9 kvs ho9 hf9 F1 N1
end
/-- a table of texts comes back -/
noncomputable abbrev RetD (w : World) (D : List (PyData × PyData)) : (Value → Shared → Prop) → Heap → Addr → (Str → Option Value) → List (Addr × Obj) → Shared → Prop := fun Q h₀ L m news s =>
  ∀ (d : Addr) (o : Obj) (kvs : List (Str × Value)) (h' : Heap) (tk' : Nat), o.IsDictOf (strKind PP w) kvs → PyProof.V.FlatPairs PyData.str kvs D → (d == sysModules) = false → Fr h₀ L h' m → News h₀ L h' ((d, o) :: news) → (∀ p ∈ news, p.1 < d) →
    Q (.ref d) { s with heap := h', toks := tk' }
set_option maxRecDepth 100000 in
set_option maxHeartbeats 2000000 in
theorem ct_keqv (w : World) (vs : List Value) (xs : List Str) (ps : List (Str × Str)) (D : Addr) (n : Nat) (hv : StrsAre vs xs) (hxp : xs.length = ps.length) (hx : ∀ (i : Nat) (x : Str) (p : Str × Str), xs[i]? = some x → ps[i]? = some p → Txt.splitMax x (Str.ofString "=") 1 = [p.1, p.2] ∧ p.2.length ≠ 0 ∧ x.length ≤ 1000) (hp : ps.length ≤ 10) :
    Ct w 35 [Value.ref D] (fun news => ∃ r, news = (D, listOf vs.toArray n) :: r) (RetD w (kqD ps)) := by
  (w_top off; k_with_none; (have hz9 : PySem.Challenge.rw_mj0138_01 = PySem.Challenge.rw_mj0138_01 ∧ hd.heap_39 = hd.heap_39 := by (k_fill; exact ⟨rfl, rfl⟩)); clear hz9)
  intro mean mg mb cn cs a ccd cl outer A₀ base h₀ L m news s Q E kB kF0 kX kN0 kT kK kPre hret
  refine wpAny_call ?_
  obtain ⟨rest, rfl⟩ := kPre
  refine' code_def (binds := [(Str.ofString "l", Value.ref D)]) ?k1 ?k2 ?k3 ?k4 ?k5 ?kA ?kF ?kK ?k6 ?k7 ?k8 ?k9 ?kB ?_ ?c2 ?c3 ?c4 ?c5
  ((case kA => exact rfl); (case kF => exact rfl); (case kK => assumption); (case k1 => k_asm); (case k2 => k_asm); (case k3 => k_asm); (case k4 => k_asm); (case k5 => k_asm); (case k6 => k_is); (case k7 => k_is); (case k8 => k_room); (case k9 => exact BindsTo.of_eq rfl); (case c5 => decide); (case kB => exact locs rfl); (case c2 => exact rfl); (case c3 => exact rfl); (case c4 => exact rfl))
  k_whole; intro g' L' h' FG' F' N' B' X' T'; (try dsimp only); (try k_lift B'); (try k_fold)
  (repeat' (first | (k_unfold; (try dsimp only)) | walk1 | (dsimp only; walk1) | fail "no step"))
  rename Fr g' L' _ _ => F1
  rename News g' L' _ _ => N1
  rename _ ∧ AllLt _ _ => l9
  rename Obj.IsDictOf (strKind PP w) _ [] => ho9
  rename PyProof.V.FlatPairs PyData.str [] [] => hf9
  rename (_ == sysModules) = false => lo9
  have hrest := allLt_all l9.2
  refine kq_loop (D := D) (vs := vs) hv hxp hx hp F1 N1 ho9 hf9 rfl (Nat.ne_of_lt l9.1) (fun p hp => Nat.ne_of_lt (hrest p hp)) fun h7 k7 r7 o7 kvs7 ho7 hf7 F7 N7 => ?_
  clear F1 N1
  dsimp only
  (repeat' (first | (k_unfold; (try dsimp only)) | walk1 | (dsimp only; walk1) | fail "no step"))
  rename Fr h₀ _ _ _ => kF
  rename News h₀ _ _ _ => kN
  refine hret _ o7 kvs7 h7 k7 ho7 hf7 lo9 kF kN fun p hp => ?_
  rcases List.mem_cons.mp hp with rfl | hp
  · exact l9.1
  · exact hrest p hp
end
section
open PySem PySem.W PyProof.Rows PySem.Calls PySem.Spec
open PySem PyProof.Rows
theorem bare_last {v : Str} {way : Int} (h : bareC v way) : ∃ n z, ls v = n ++ [z] ∧ sp z = false := by
  have e : trimL (ls v) = ls v := by rw [← strip_ls, ← beq_iff_eq.mp h.2.2.1]
  refine trim_last e fun q => ?_
  have h2 := h.2.1
  rw [show v = S "" from str_ext q] at h2
  exact absurd h2 (by decide)
theorem val_last (v : Str) (way : Int) : ∃ n z, ls (valS v way) = n ++ [z] ∧ sp z = false := by
  unfold valS
  split
  · rename_i h; exact bare_last h
  · exact ⟨ls (S "\"" ++ v), 34, by rw [ls_app]; rfl, by decide +kernel⟩
theorem piece_trim {k : Str} (hk : KeyOk k) (v : Str) (way : Int) : trimL (ls (pieceS k v way)) = ls (pieceS k v way) := by
  obtain ⟨a, m, e, ha⟩ := hk.head
  obtain ⟨n, z, e2, hz⟩ := val_last v way
  refine trim_keep (a := a) (m := m ++ ls (S "=") ++ ls (valS v way)) (z := z) (n := ls (k ++ S "=") ++ n) ?_ ha ?_ hz
  · unfold pieceS; rw [ls_app, ls_app, e]; simp
  · unfold pieceS; rw [ls_app, e2, List.append_assoc]
theorem piece_strip {k : Str} (hk : KeyOk k) (v : Str) (way : Int) : Txt.strip (pieceS k v way) = pieceS k v way := str_ext (by rw [strip_ls, piece_trim hk])
theorem piece_strip2 {k : Str} (hk : KeyOk k) (v : Str) (way : Int) : Txt.strip (S "" ++ ⟨#[32]⟩ ++ pieceS k v way) = pieceS k v way := str_ext (by
  rw [strip_ls, ls_app, ls_app]
  show trimL (32 :: ls (pieceS k v way)) = _
  rw [trim_blank, piece_trim hk])
theorem txt_join_ls (z : Str) (parts : List Str) : ls (Txt.join z parts) = jn (ls z) (parts.map ls) := by
  show ls (Builtin.Str.glued z parts) = _
  rw [StrLaws.glued_eq_join, join_ls]
theorem empty_app (p : Str) : S "" ++ p = p := str_ext (by rw [ls_app]; rfl)
theorem http4 {k0 k1 k2 k3 v0 v1 v2 v3 : Str} {way : Int} (h0 : KeyOk k0) (h1 : KeyOk k1) (h2 : KeyOk k2) (h3 : KeyOk k3)
    (b0 : bareC v0 way → 44 ∉ ls v0) (b1 : bareC v1 way → 44 ∉ ls v1) (b2 : bareC v2 way → 44 ∉ ls v2) (b3 : bareC v3 way → 44 ∉ ls v3) :
    hend (hrun (KStt.codes (Txt.join (S ", ") [wr k0 v0 way, wr k1 v1 way, wr k2 v2 way, wr k3 v3 way]))) = [pieceS k0 v0 way, pieceS k1 v1 way, pieceS k2 v2 way, pieceS k3 v3 way] := by
  rw [hrun_ls, txt_join_ls]
  simp only [List.map_cons, List.map_nil, jn]
  have step : ∀ (res : List Str) (p : Str) (l : List Nat), hf (res, p, false, false) (ls (S ", ") ++ l) = hf (res ++ [p], S "" ++ ⟨#[32]⟩, false, false) l := by
    intro res p l
    rw [hf_app]
    rfl
  simp only [List.append_assoc (as := ls (wr k0 v0 way)), List.append_assoc (as := ls (wr k1 v1 way)), List.append_assoc (as := ls (wr k2 v2 way))]
  rw [hf_app, run_piece h0 b0, step, hf_app, run_piece h1 b1, step, hf_app, run_piece h2 b2, step, run_piece h3 b3]
  have ne : ¬ (S "" ++ ⟨#[32]⟩ ++ pieceS k3 v3 way == S "") = true := fun q => by
    have := congrArg (fun x => (ls x).length) (beq_iff_eq.mp q)
    simp only [ls_app, List.length_append] at this
    have z : (ls (S "")).length = 0 := rfl
    have z2 : (ls (⟨#[32]⟩ : Str)).length = 1 := rfl
    rw [z, z2] at this
    omega
  unfold hend
  dsimp only
  rw [if_neg ne]
  simp only [List.nil_append, List.cons_append, List.map_cons, List.map_nil]
  rw [empty_app, piece_strip h0, piece_strip2 h1, piece_strip2 h2, piece_strip2 h3]
theorem limit_one (x : Str) : limitOf x 1 = 1 := rfl
theorem kind_one (x : Str) : decide (Builtin.Str.strKind x < Builtin.Str.strKind (S "=")) = false := by
  rw [show Builtin.Str.strKind (S "=") = 1 by decide +kernel]
  unfold Builtin.Str.strKind
  split
  · rfl
  · split <;> rfl
theorem split_one {k v : Str} (hk : 61 ∉ ls k) : Txt.splitMax (k ++ S "=" ++ v) (S "=") 1 = [k, v] := by
  generalize hx : k ++ S "=" ++ v = x
  have hl : ls x = ls k ++ 61 :: ls v := by rw [← hx, ls_app, ls_app, List.append_assoc]; rfl
  have hlen : x.length = k.length + 1 + v.length := by rw [← hx, Str.length_append, Str.length_append]; rfl
  have at_iff1 : ∀ i, StrLaws.At x (S "=") x.length i ↔ (ls x)[i]? = some 61 := fun i => StrLaws.subAt_one x 61 i
  have atk : StrLaws.At x (S "=") x.length k.length := (at_iff1 _).mpr (by rw [hl, ← len_ls, List.getElem?_append_right (Nat.le_refl _), Nat.sub_self]; rfl)
  unfold Txt.splitMax
  rw [kind_one, show decide (x.length < (S "=").length) = false from decide_eq_false (by have : (S "=").length = 1 := rfl; omega)]
  rw [if_neg (by decide), limit_one]
  rcases StrLaws.occ_head x (S "=") 1 (Nat.le_refl _) with ⟨_, hn⟩ | ⟨i, r, e, hi, hm⟩
  · exact absurd atk (hn _)
  · have hr : r = [] := by
      have := StrLaws.occ_length_le x (S "=") 0 x.length 1
      rw [e, List.length_cons] at this
      exact List.length_eq_zero_iff.mp (by omega)
    subst hr
    have hik : i = k.length := by
      rcases Nat.lt_trichotomy i k.length with h | h | h
      · have := (at_iff1 i).mp hi
        rw [hl, List.getElem?_append_left (by rw [len_ls]; exact h)] at this
        exact absurd (List.mem_of_getElem? this) hk
      · exact h
      · exact absurd atk (hm _ h)
    subst hik
    rw [e, if_neg (by simp), StrLaws.partsBetween_eq]
    have hw : (S "=").length = 1 := rfl
    simp only [StrLaws.partsFrom, hw]
    have p1 : Builtin.Str.strSub x 0 k.length = k := str_ext (by
      rw [ls, StrLaws.strSub_toList, List.drop_zero, Nat.sub_zero]
      show (ls x).take _ = _
      rw [hl, ← len_ls, List.take_left])
    have p2 : Builtin.Str.strSub x (k.length + 1) x.length = v := str_ext (by
      rw [ls, StrLaws.strSub_toList]
      show ((ls x).drop _).take _ = _
      have hd : (ls x).drop (k.length + 1) = ls v := by
        rw [hl, show ls k ++ 61 :: ls v = (ls k ++ [61]) ++ ls v by simp, show k.length + 1 = (ls k ++ [61]).length by rw [List.length_append, len_ls]; rfl, List.drop_left]
      rw [hd, List.take_of_length_le (by rw [len_ls]; omega)])
    rw [p1, p2]
theorem item_first {x : Str} {c : Nat} {m : List Nat} (h : ls x = c :: m) : Txt.item x 0 = ⟨#[c]⟩ := by
  unfold Txt.item Txt.charAt
  rw [StrLaws.at_nonneg (n := c) (by decide)]
  · rfl
  · rw [← Array.getElem?_toList]
    show (ls x)[_]? = _
    rw [h]; rfl
theorem unq_val (v : Str) (way : Int) : unq (valS v way) = v := by
  unfold valS
  split
  · rename_i h
    unfold unq
    obtain ⟨n, z, e, _⟩ := bare_last h
    have hq := no_quote h.2.2.2
    cases hl : ls v with
    | nil => rw [hl] at e; exact absurd e (by simp)
    | cons c m =>
      have hc : (Txt.item v 0 == S "\"") = false := by
        rw [item_first hl, show S "\"" = ⟨#[34]⟩ from rfl, one_eq, beq_eq_false_iff_ne]
        exact fun q => hq (by rw [hl, q]; exact .head _)
      rw [hc]; rfl
  · unfold unq
    generalize hx : S "\"" ++ v ++ S "\"" = x
    have hl : ls x = 34 :: (ls v ++ [34]) := by rw [← hx, ls_app, ls_app]; rfl
    have hlen : x.length = v.length + 2 := by rw [← len_ls, hl]; simp [len_ls, Str.length]
    have i1 : Txt.item x 0 = S "\"" := item_first hl
    have i2 : Txt.item x (-1) = S "\"" := item_last (l := 34 :: ls v) (c := 34) (by omega) (by rw [hl]; rfl)
    rw [i1, i2, if_pos (by decide)]
    have e : Txt.slice x (some 1) (some (-1)) = StrLaws.sliceText x (some 1) (some (-1)) := rfl
    rw [e, StrLaws.sliceText_neg_hi x (some 1) (by decide) (by omega), StrLaws.sliceText_plain ⟨by decide, by omega, by rw [show x.cps.toList.length = x.length from len_ls x]; omega⟩]
    refine str_ext ?_
    show ((ls x).drop 1).take _ = ls v
    rw [hl, show (-1 + ((x.length : Nat) : Int) - 1).toNat = (ls v).length by rw [len_ls]; omega]
    show (ls v ++ [34]).take _ = _
    rw [List.take_left]
theorem val_ne (v : Str) (way : Int) : (valS v way).length ≠ 0 := by
  obtain ⟨n, z, e, _⟩ := val_last v way
  rw [← len_ls, e]; simp
theorem val_len (v : Str) (way : Int) : (valS v way).length ≤ v.length + 2 := by
  unfold valS
  split
  · omega
  · rw [Str.length_append, Str.length_append]
    have : (S "\"").length = 1 := rfl
    omega
theorem piece_len (k v : Str) (way : Int) : (pieceS k v way).length ≤ k.length + v.length + 3 := by
  unfold pieceS
  rw [Str.length_append, Str.length_append]
  have := val_len v way
  have z : (S "=").length = 1 := rfl
  omega
theorem flat_len (way : Int) : ∀ l : List Nat, (l.flatMap (escOne way)).length ≤ 2 * l.length
  | [] => Nat.le_refl _
  | a :: r => by
    rw [List.flatMap_cons, List.length_append, List.length_cons]
    have h := flat_len way r
    have : (escOne way a).length ≤ 2 := by unfold escOne; split <;> simp
    omega
theorem wr_len (k v : Str) (way : Int) : (wr k v way).length ≤ k.length + 2 * v.length + 3 := by
  rw [wr_eq]
  have z : (S "=").length = 1 := rfl
  have z2 : (S "=\"").length = 2 := rfl
  have z3 : (S "\"").length = 1 := rfl
  split
  · rw [Str.length_append, Str.length_append]; omega
  · rw [Str.length_append, Str.length_append, Str.length_append]
    have : (escI way (KStt.codes v)).length ≤ 2 * v.length := by
      rw [← len_ls, ls_esc, ← len_ls v]
      exact flat_len way _
    omega
end
section
open PySem PySem.W PyProof.Rows PySem.Calls PySem.Spec
open PySem PyProof.Rows
open PyProof.V (putD)
/-- the value that is told of a key -/
noncomputable def tlF (sys rel ver : Str) (k : Str) : Str := if (k == S "system") = true then sys else if (k == S "release") = true then rel else ver
inductive Rot : Str → Str → Str → Prop
  | r0 : Rot (S "system") (S "release") (S "version")
  | r1 : Rot (S "release") (S "version") (S "system")
  | r2 : Rot (S "version") (S "system") (S "release")
theorem Rot.mem {a b c : Str} (h : Rot a b c) : a ∈ keyL ∧ b ∈ keyL ∧ c ∈ keyL := by
  cases h <;> exact ⟨by decide, by decide, by decide⟩
theorem same_str (a b : Str) : PySem.Spec.same (.str a) (.str b) = (a == b) := by unfold PySem.Spec.same; rfl
section
variable {sys rel ver old : Str} {way : Int}
theorem ess : (S "system" == S "system") = true := by decide
theorem esr : (S "system" == S "release") = false := by decide
theorem esv : (S "system" == S "version") = false := by decide
theorem ers : (S "release" == S "system") = false := by decide
theorem err : (S "release" == S "release") = true := by decide
theorem erv : (S "release" == S "version") = false := by decide
theorem evs : (S "version" == S "system") = false := by decide
theorem evr : (S "version" == S "release") = false := by decide
theorem evv : (S "version" == S "version") = true := by decide
theorem tl_s : tlF sys rel ver (S "system") = sys := rfl
theorem tl_r : tlF sys rel ver (S "release") = rel := rfl
theorem tl_v : tlF sys rel ver (S "version") = ver := rfl
/-- the four pieces as pairs -/
noncomputable def kps4 (tl : Str → Str) (old : Str) (way : Int) (k0 k1 k2 k3 : Str) : List (Str × Str) := [(k0, valS old way), (k1, valS (tl k1) way), (k2, valS (tl k2) way), (k3, valS (tl k3) way)]
/-- the table that comes of them -/
noncomputable def tab3 (tl : Str → Str) (k0 q1 q2 : Str) : List (PyData × PyData) := [(.str k0, .str (tl k0)), (.str q1, .str (tl q1)), (.str q2, .str (tl q2))]
noncomputable def Tab (sys rel ver old : Str) (way : Int) (k0 k1 k2 k3 : Str) : Prop := ∃ q1 q2, [k1, k2, k3].filter (fun k => k != k0) = [q1, q2] ∧ kqD (kps4 (tlF sys rel ver) old way k0 k1 k2 k3) = tab3 (tlF sys rel ver) k0 q1 q2 ∧ q1 ∈ keyL ∧ q2 ∈ keyL ∧
    PySem.Spec.lookup (.str (S "system")) (tab3 (tlF sys rel ver) k0 q1 q2) = some (.str sys) ∧ PySem.Spec.lookup (.str (S "release")) (tab3 (tlF sys rel ver) k0 q1 q2) = some (.str rel) ∧ PySem.Spec.lookup (.str (S "version")) (tab3 (tlF sys rel ver) k0 q1 q2) = some (.str ver)
theorem tab9_of {k0 k1 k2 k3 : Str} (h : Rot k1 k2 k3) (hk : k0 ∈ keyL) : Tab sys rel ver old way k0 k1 k2 k3 := by
  simp only [keyL, List.mem_cons, List.not_mem_nil, or_false] at hk
  rcases hk with rfl | rfl | rfl <;> cases h
  · exact ⟨S "release", S "version", by decide, by simp [kqD, kps4, tab3, putD, same_str, unq_val, ess, esr, esv, ers, err, erv, evs, evr, evv, tl_s, tl_r, tl_v], by decide, by decide, by simp [tab3, PySem.Spec.lookup, same_str, ess, esr, esv, ers, err, erv, evs, evr, evv, tl_s, tl_r, tl_v], by simp [tab3, PySem.Spec.lookup, same_str, ess, esr, esv, ers, err, erv, evs, evr, evv, tl_s, tl_r, tl_v], by simp [tab3, PySem.Spec.lookup, same_str, ess, esr, esv, ers, err, erv, evs, evr, evv, tl_s, tl_r, tl_v]⟩
  · exact ⟨S "release", S "version", by decide, by simp [kqD, kps4, tab3, putD, same_str, unq_val, ess, esr, esv, ers, err, erv, evs, evr, evv, tl_s, tl_r, tl_v], by decide, by decide, by simp [tab3, PySem.Spec.lookup, same_str, ess, esr, esv, ers, err, erv, evs, evr, evv, tl_s, tl_r, tl_v], by simp [tab3, PySem.Spec.lookup, same_str, ess, esr, esv, ers, err, erv, evs, evr, evv, tl_s, tl_r, tl_v], by simp [tab3, PySem.Spec.lookup, same_str, ess, esr, esv, ers, err, erv, evs, evr, evv, tl_s, tl_r, tl_v]⟩
  · exact ⟨S "version", S "release", by decide, by simp [kqD, kps4, tab3, putD, same_str, unq_val, ess, esr, esv, ers, err, erv, evs, evr, evv, tl_s, tl_r, tl_v], by decide, by decide, by simp [tab3, PySem.Spec.lookup, same_str, ess, esr, esv, ers, err, erv, evs, evr, evv, tl_s, tl_r, tl_v], by simp [tab3, PySem.Spec.lookup, same_str, ess, esr, esv, ers, err, erv, evs, evr, evv, tl_s, tl_r, tl_v], by simp [tab3, PySem.Spec.lookup, same_str, ess, esr, esv, ers, err, erv, evs, evr, evv, tl_s, tl_r, tl_v]⟩
  · exact ⟨S "system", S "version", by decide, by simp [kqD, kps4, tab3, putD, same_str, unq_val, ess, esr, esv, ers, err, erv, evs, evr, evv, tl_s, tl_r, tl_v], by decide, by decide, by simp [tab3, PySem.Spec.lookup, same_str, ess, esr, esv, ers, err, erv, evs, evr, evv, tl_s, tl_r, tl_v], by simp [tab3, PySem.Spec.lookup, same_str, ess, esr, esv, ers, err, erv, evs, evr, evv, tl_s, tl_r, tl_v], by simp [tab3, PySem.Spec.lookup, same_str, ess, esr, esv, ers, err, erv, evs, evr, evv, tl_s, tl_r, tl_v]⟩
  · exact ⟨S "version", S "system", by decide, by simp [kqD, kps4, tab3, putD, same_str, unq_val, ess, esr, esv, ers, err, erv, evs, evr, evv, tl_s, tl_r, tl_v], by decide, by decide, by simp [tab3, PySem.Spec.lookup, same_str, ess, esr, esv, ers, err, erv, evs, evr, evv, tl_s, tl_r, tl_v], by simp [tab3, PySem.Spec.lookup, same_str, ess, esr, esv, ers, err, erv, evs, evr, evv, tl_s, tl_r, tl_v], by simp [tab3, PySem.Spec.lookup, same_str, ess, esr, esv, ers, err, erv, evs, evr, evv, tl_s, tl_r, tl_v]⟩
  · exact ⟨S "version", S "system", by decide, by simp [kqD, kps4, tab3, putD, same_str, unq_val, ess, esr, esv, ers, err, erv, evs, evr, evv, tl_s, tl_r, tl_v], by decide, by decide, by simp [tab3, PySem.Spec.lookup, same_str, ess, esr, esv, ers, err, erv, evs, evr, evv, tl_s, tl_r, tl_v], by simp [tab3, PySem.Spec.lookup, same_str, ess, esr, esv, ers, err, erv, evs, evr, evv, tl_s, tl_r, tl_v], by simp [tab3, PySem.Spec.lookup, same_str, ess, esr, esv, ers, err, erv, evs, evr, evv, tl_s, tl_r, tl_v]⟩
  · exact ⟨S "system", S "release", by decide, by simp [kqD, kps4, tab3, putD, same_str, unq_val, ess, esr, esv, ers, err, erv, evs, evr, evv, tl_s, tl_r, tl_v], by decide, by decide, by simp [tab3, PySem.Spec.lookup, same_str, ess, esr, esv, ers, err, erv, evs, evr, evv, tl_s, tl_r, tl_v], by simp [tab3, PySem.Spec.lookup, same_str, ess, esr, esv, ers, err, erv, evs, evr, evv, tl_s, tl_r, tl_v], by simp [tab3, PySem.Spec.lookup, same_str, ess, esr, esv, ers, err, erv, evs, evr, evv, tl_s, tl_r, tl_v]⟩
  · exact ⟨S "release", S "system", by decide, by simp [kqD, kps4, tab3, putD, same_str, unq_val, ess, esr, esv, ers, err, erv, evs, evr, evv, tl_s, tl_r, tl_v], by decide, by decide, by simp [tab3, PySem.Spec.lookup, same_str, ess, esr, esv, ers, err, erv, evs, evr, evv, tl_s, tl_r, tl_v], by simp [tab3, PySem.Spec.lookup, same_str, ess, esr, esv, ers, err, erv, evs, evr, evv, tl_s, tl_r, tl_v], by simp [tab3, PySem.Spec.lookup, same_str, ess, esr, esv, ers, err, erv, evs, evr, evv, tl_s, tl_r, tl_v]⟩
  · exact ⟨S "system", S "release", by decide, by simp [kqD, kps4, tab3, putD, same_str, unq_val, ess, esr, esv, ers, err, erv, evs, evr, evv, tl_s, tl_r, tl_v], by decide, by decide, by simp [tab3, PySem.Spec.lookup, same_str, ess, esr, esv, ers, err, erv, evs, evr, evv, tl_s, tl_r, tl_v], by simp [tab3, PySem.Spec.lookup, same_str, ess, esr, esv, ers, err, erv, evs, evr, evv, tl_s, tl_r, tl_v], by simp [tab3, PySem.Spec.lookup, same_str, ess, esr, esv, ers, err, erv, evs, evr, evv, tl_s, tl_r, tl_v]⟩
end
end
section
open PySem PySem.W PyProof.Rows PySem.Calls PySem.Spec
noncomputable def al3 (sys rel : Str) (mv : Option Str) (ver : Str) : Str × Str × Str :=
  match sys == Str.ofString "SunOS", mv with
  | true, some x => (Str.ofString "Solaris", x, ver)
  | _, _ => if (sys == Str.ofString "win32" || sys == Str.ofString "win16") = true then (Str.ofString "Windows", rel, ver) else (sys, rel, ver)
set_option maxRecDepth 100000 in
set_option maxHeartbeats 2000000 in
theorem ct_alias (w : World) (x y z : Str) (mv : Option Str) (t1 t2 t3 t4 : Tok) :
    Ct w 61 [Value.str x t1, Value.str y t2, mvV mv t3, Value.str z t4] (fun _ => True) (RetT (al3 x y mv z)) := by
  (w_top off; k_with_none; (have hz9 : PySem.Challenge.rw_mj0138_01 = PySem.Challenge.rw_mj0138_01 ∧ hd.heap_39 = hd.heap_39 := by (k_fill; exact ⟨rfl, rfl⟩)); clear hz9)
  intro mean mg mb cn cs a ccd cl outer A₀ base h₀ L m news s Q E kB kF0 kX kN0 kT kK kPre hret
  refine wpAny_call ?_
  refine' code_def (binds := [(Str.ofString "system", Value.str x t1), (Str.ofString "release", Value.str y t2), (Str.ofString "moved", mvV mv t3), (Str.ofString "version", Value.str z t4)]) ?k1 ?k2 ?k3 ?k4 ?k5 ?kA ?kF ?kK ?k6 ?k7 ?k8 ?k9 ?kB ?_ ?c2 ?c3 ?c4 ?c5
  ((case kA => exact rfl); (case kF => exact rfl); (case kK => assumption); (case k1 => k_asm); (case k2 => k_asm); (case k3 => k_asm); (case k4 => k_asm); (case k5 => k_asm); (case k6 => k_is); (case k7 => k_is); (case k8 => k_room); (case k9 => exact BindsTo.of_eq rfl); (case c5 => decide); (case kB => exact locs rfl); (case c2 => exact rfl); (case c3 => exact rfl); (case c4 => exact rfl))
  k_whole; intro g' L' h' FG' F' N' B' X' T'; (try dsimp only); (try k_lift B'); (try k_fold)
  cases mv
  all_goals dsimp only [mvV] at F'
  all_goals k_steps
  all_goals (refine' endT hret ?e ?f ?n ?l; (case f => assumption); (case n => assumption); (case l => assumption); (case e => (simp only [al3, S, *]); try rfl))
end
section
open PySem PySem.W PyProof.Rows PySem.Calls PySem.Spec
open PySem PyProof.Rows
theorem fig_all : ∀ n : Fin 120, (ls (fig ((n.val : Nat) : Int))).all (fun c => decide (48 ≤ c) && decide (c ≤ 57)) = true ∧ ls (fig ((n.val : Nat) : Int)) ≠ [] ∧ PySem.intText? (fig ((n.val : Nat) : Int)) = some ((n.val : Nat) : Int) ∧ PySem.intText? (fig ((n.val : Nat) : Int) ++ S " ") = some ((n.val : Nat) : Int) ∧ PySem.intText? (fig ((n.val : Nat) : Int) ++ S "x") = none ∧ PySem.intText? (S "B" ++ fig ((n.val : Nat) : Int)) = none := by decide +kernel
structure FigOk (i : Int) : Prop where
  dig : ∀ c ∈ ls (fig i), 48 ≤ c ∧ c ≤ 57
  ne : ls (fig i) ≠ []
  i0 : PySem.intText? (fig i) = some i
  i2 : PySem.intText? (fig i ++ S " ") = some i
  i3 : PySem.intText? (fig i ++ S "x") = none
  i4 : PySem.intText? (S "B" ++ fig i) = none
theorem fig_ok {i : Int} (h : 0 ≤ i ∧ i < 120) : FigOk i := by
  obtain ⟨n, rfl⟩ : ∃ n : Nat, i = (n : Int) := ⟨i.toNat, by omega⟩
  obtain ⟨a, b, c, d, e, f⟩ := fig_all ⟨n, by omega⟩
  refine ⟨fun x hx => ?_, b, c, d, e, f⟩
  have := List.all_eq_true.mp a x hx
  rw [Bool.and_eq_true, decide_eq_true_iff, decide_eq_true_iff] at this
  exact this
/-- a rest: nothing, or a dot ahead; plain signs -/
noncomputable def RestOk (r : Str) : Prop := (ls r = [] ∨ ∃ m, ls r = 46 :: m) ∧ ∀ c ∈ ls r, c ∈ [46, 48, 55, 120, 32, 121]
theorem rest1 {y : Str} (h : y ∈ restsL) : RestOk y := by
  simp only [restsL, List.mem_cons, List.not_mem_nil, or_false] at h
  rcases h with rfl | rfl | rfl | rfl | rfl
  · exact ⟨.inl rfl, by decide⟩
  · exact ⟨.inr ⟨_, rfl⟩, by decide⟩
  · exact ⟨.inr ⟨_, rfl⟩, by decide⟩
  · exact ⟨.inr ⟨_, rfl⟩, by decide⟩
  · exact ⟨.inr ⟨_, rfl⟩, by decide⟩
theorem restD (k : Nat) : RestOk (restsL.getD k (S "")) := by
  cases h : restsL[k]? with
  | some y => rw [getD_of h]; exact rest1 (List.mem_of_getElem? h)
  | none =>
    rw [List.getD_eq_getElem?_getD, h]
    exact ⟨.inl rfl, fun c hc => nomatch hc⟩
theorem rest_ok (i j : Int) : RestOk (relRest i j) := by
  unfold relRest
  obtain ⟨a1, a2⟩ := restD i.toNat
  obtain ⟨b1, b2⟩ := restD j.toNat
  refine ⟨?_, fun c hc => ?_⟩
  · rw [ls_app]
    rcases a1 with h | ⟨m, h⟩
    · rw [h]; exact b1
    · rw [h]; exact .inr ⟨_, rfl⟩
  · rw [ls_app] at hc
    rcases List.mem_append.mp hc with hc | hc
    · exact a2 c hc
    · exact b2 c hc
theorem dot_kind : Builtin.Str.strKind (S ".") = 1 := by decide +kernel
theorem splK_dot_h : ∀ (h : List Nat), 46 ∉ h → ∀ r, splK [46] 0 (h ++ 46 :: r) = h :: splK [46] 0 r
  | [], _, r => by
    conv => lhs; unfold splK
    simp [List.isPrefixOf]
  | c :: h, hn, r => by
    have hc : c ≠ 46 := fun q => hn (q ▸ .head _)
    have ih := splK_dot_h h (fun q => hn (.tail _ q)) r
    show splK [46] 0 (c :: (h ++ 46 :: r)) = _
    conv => lhs; unfold splK
    have : ([46] : List Nat).isPrefixOf (c :: (h ++ 46 :: r)) = false := by simp [List.isPrefixOf]; exact fun q => hc q.symm
    rw [this, ih]; simp
theorem splK_dot_0 : ∀ (h : List Nat), 46 ∉ h → splK [46] 0 h = [h]
  | [], _ => by unfold splK; rfl
  | c :: h, hn => by
    have hc : c ≠ 46 := fun q => hn (q ▸ .head _)
    have ih := splK_dot_0 h (fun q => hn (.tail _ q))
    unfold splK
    have : ([46] : List Nat).isPrefixOf (c :: h) = false := by simp [List.isPrefixOf]; exact fun q => hc q.symm
    rw [this, ih]; simp
theorem jn_splK (c : Nat) (l : List Nat) : jn [c] (splK [c] 0 l) = l := by
  rw [rpl_eq, rpl_one]
  refine (List.map_congr_left fun a _ => ?_).trans (List.map_id l)
  by_cases h : a = c <;> simp [h]
/-- a text split at its dots: the head, and what is set together again behind another head -/
theorem split_head {h r : Str} (hh : 46 ∉ ls h) (hr : ls r = [] ∨ ∃ m, ls r = 46 :: m) : ∃ t, Txt.split (h ++ r) (S ".") = h :: t ∧ ∀ z : Str, Txt.join (S ".") (z :: t) = z ++ r := by
  have e := split_ls (x := h ++ r) (y := S ".") (by decide) dot_kind
  have e2 : ls (S ".") = [46] := rfl
  rw [e2, ls_app] at e
  rcases hr with hr | ⟨m, hr⟩
  · rw [hr, List.append_nil, splK_dot_0 _ hh] at e
    generalize Txt.split (h ++ r) (S ".") = Lp at e ⊢
    cases Lp with
    | nil => simp at e
    | cons p q =>
      simp only [List.map_cons, List.cons.injEq, List.map_eq_nil_iff] at e
      obtain ⟨e1, rfl⟩ := e
      refine ⟨[], by rw [str_ext e1], fun z => str_ext ?_⟩
      rw [txt_join_ls, ls_app, hr]
      simp [jn]
  · rw [hr, splK_dot_h _ hh] at e
    generalize Txt.split (h ++ r) (S ".") = Lp at e ⊢
    cases Lp with
    | nil => simp at e
    | cons p q =>
      simp only [List.map_cons, List.cons.injEq] at e
      refine ⟨q, by rw [str_ext e.1], fun z => str_ext ?_⟩
      rw [txt_join_ls, ls_app, hr, List.map_cons, e.2, e2]
      obtain ⟨a, b, e3⟩ := splK_ne [46] m 0
      have e4 := jn_splK 46 m
      rw [e3] at e4 ⊢
      show ls z ++ [46] ++ jn [46] (a :: b) = _
      rw [e4]; simp
theorem splK_mem : ∀ (l : List Nat) (u : List Nat) (k : Nat), ∀ p ∈ splK u k l, ∀ c ∈ p, c ∈ l
  | [], u, k, p, hp, c, hc => by
    unfold splK at hp
    rw [List.mem_singleton.mp hp] at hc
    exact hc
  | a :: l, u, k + 1, p, hp, c, hc => by
    unfold splK at hp
    exact .tail _ (splK_mem l u k p hp c hc)
  | a :: l, u, 0, p, hp, c, hc => by
    unfold splK at hp
    split at hp
    · rcases List.mem_cons.mp hp with rfl | hp
      · exact nomatch hc
      · exact .tail _ (splK_mem l u _ p hp c hc)
    · obtain ⟨b, r, e⟩ := splK_ne u l 0
      rw [e] at hp
      rcases List.mem_cons.mp hp with rfl | hp
      · rcases List.mem_cons.mp hc with rfl | hc
        · exact .head _
        · exact .tail _ (splK_mem l u 0 b (e ▸ .head _) c hc)
      · exact .tail _ (splK_mem l u 0 p (e ▸ .tail _ hp) c hc)
theorem split_mem {x y : Str} (hy : 1 ≤ y.length) (hk : Builtin.Str.strKind y = 1) : ∀ p ∈ Txt.split x y, ∀ c ∈ ls p, c ∈ ls x := fun p hp c hc =>
  splK_mem (ls x) (ls y) 0 (ls p) (split_ls hy hk ▸ List.mem_map_of_mem hp) c hc
end
section
open PySem PySem.W PyProof.Rows PySem.Calls PySem.Spec
open PySem.Sem (wp)
section
variable {prog : Program} {w : World} {A₀ A : Around} {s : Shared} {base h₀ : Heap} {outer : List Env} {L a : Addr} {m : Str → Option Value} {env : Env} {news : List (Addr × Obj)} {K : Frag} {p : Program} {loose : List Str} {mean : ExcName → Option Value} {mg mb : Str → Option Value}
theorem x_mem (hf : env.frame = some L) {b : Addr} (h : b ∈ (env :: outer).filterMap (·.frame)) : b = L ∨ b ∈ outer.filterMap (·.frame) := by
  rw [List.filterMap_cons, hf] at h
  exact List.mem_cons.mp h
theorem x_head (B : Below A₀ base outer h₀) (F : Fr h₀ L s.heap m) (N : News h₀ L s.heap news) (hA : A.frames = some (env :: outer)) (hf : env.frame = some L) (hke : env.scope.kind = .function) :
    ∃ oL es ep, (hideAll s.heap (news.map (·.1))).get? L = some oL ∧ oL.data = .dict es ep ∧ (∀ (sl : Array (Option Value)) h', h'.get? L = some { oL with slots := sl } → Heap.Ns h' L m) ∧
      h₀.StaysIn (hideAll s.heap (news.map (·.1))) ∧ Below A base (env :: outer) (hideAll s.heap (news.map (·.1))) := by
  obtain ⟨FG, BG, st, _⟩ := groundX (R := fun _ _ => True) B F N hA hf hke
  obtain ⟨oL, es, ep, hL, hLd, hLk, hLf⟩ := FG.ns
  exact ⟨oL, es, ep, hL, hLd, fun sl h' e => ⟨_, es, ep, e, hLd, hLk, hLf⟩, st, BG⟩
/-- into a called def from a frame of any make, and back out of it -/
theorem x_enter (G : Gnd K p loose mean mg mb A₀ base outer h₀) (F : Fr h₀ L s.heap m) (N : News h₀ L s.heap news) (hA : A.frames = some (env :: outer)) (hf : env.frame = some L) (hke : env.scope.kind = .function) :
    ∃ g, Gnd K p loose mean mg mb A base (env :: outer) g ∧ (∀ b o, g.get? b = some o → s.heap.get? b = some o) ∧ g.objs.size ≤ s.heap.objs.size ∧ (∀ q ∈ news, g.get? q.1 = none) ∧
      ∀ g' L' m' news' h', KtsTurn ((env :: outer).filterMap (·.frame)) g g' → Fr g' L' h' m' → News g' L' h' news' →
        ∃ h₁, KtsTurn (outer.filterMap (·.frame)) h₀ h₁ ∧ Fr h₁ L h' m ∧ News h₁ L h' news' := by
  obtain ⟨oL, es, ep, hLg, hLd, hNs, st, B₂⟩ := x_head G.B F N hA hf hke
  have nL₀ : h₀.get? L = none := kts_self F
  refine ⟨_, ⟨B₂, G.X.keeps st, G.T.keeps st, G.XB, G.TB, fun b hb => ?_⟩, fun b o e => of_hideAll _ e, Nat.le_of_eq (hideAll_size _ _), fun q hq => hideAll_none _ (List.mem_map_of_mem hq), ?_⟩
  · rcases x_mem hf hb with rfl | hb
    · exact ⟨oL, es, ep, hLg, hLd⟩
    · obtain ⟨o, es', n', ho', hd'⟩ := G.D b hb
      exact ⟨o, es', n', st b o ho', hd'⟩
  intro g' L' m' news' h' T' F' N'
  obtain ⟨sl, hs⟩ := T'.up hLg
  have off : ∀ b o, h₀.get? b = some o → b ∉ outer.filterMap (·.frame) → b ∉ (env :: outer).filterMap (·.frame) := fun b o e nm q => by
    rcases x_mem hf q with z | z
    · rw [z, nL₀] at e; cases e
    · exact nm z
  obtain ⟨T₁, S₁⟩ := kts_turn_at (h := h') (fs := outer.filterMap (·.frame)) (g := h₀)
    (fun b hb => by obtain ⟨_, o, ho', _⟩ := G.B.frames.mem hb; exact ⟨o, ho'⟩)
    (fun b o e nm => F'.keep b o (T'.other b o (st b o e) (off b o e nm)))
    (fun b o e _ => by obtain ⟨sl', hs'⟩ := T'.up (st b o e); exact ⟨sl', F'.keep _ _ hs'⟩)
  refine ⟨_, T₁, ⟨hNs sl _ (F'.keep _ _ hs), S₁, by rw [T₁.size]; exact F.above⟩, fun q hq => ⟨(N' q hq).1, fun e => ?_, T₁.none_ _ ?_⟩⟩
  · have := (N' q hq).2.2; rw [e, hs] at this; cases this
  · cases e : h₀.get? q.1 with
    | none => rfl
    | some o =>
      obtain ⟨sl', hs'⟩ := T'.up (st _ _ e)
      have := (N' q hq).2.2
      rw [hs'] at this; cases this
variable {R : Result → Shared → Prop} {name qual : Str} {params : Arguments} {body : List Stmt} {scope : Scope} {dV kV doc pm cdv ct oc : Value} {an od : Option Addr} {osl : Array (Option Value)} {f : Addr} {args : Args} {binds : List (Str × Value)}
theorem codeC_defX (G : Gnd K p loose mean mg mb A₀ base outer h₀) (F : Fr h₀ L s.heap m) (N : News h₀ L s.heap news) (hA : A.frames = some (env :: outer)) (hf : env.frame = some L) (hke : env.scope.kind = .function)
    (ho : K.lookup f = some ⟨oc, od, .func (fnOf name qual params body scope dV kV doc pm an cdv ct), osl⟩) (hcd : codeIn K cdv qual = true) (hroom : A.depth < recursionLimit)
    (hbind : BindsTo s (fnOf name qual params body scope dV kV doc pm an cdv ct) args binds) (hloc : ∀ y ∈ binds, scope.names.lookup y.1 = some .local)
    (h : ∀ g L' h₁, Fr g L' h₁ (fun y => binds.reverse.lookup y) → News g L' h₁ news → Gnd K p loose mean mg mb A base (env :: outer) g →
      wpC (model prog w) (A.deeper (envOf qual scope L' f cdv)) (execs body (envOf qual scope L' f cdv))
        (fun fl s' => LeaveC K p loose mean mg mb A₀ base outer h₀ L m ((env :: outer).filterMap (·.frame)) g R (match fl with | .ret v => v | _ => .none) s')
        (fun e s' => wpAny (model prog w) (A.deeper (envOf qual scope L' f cdv)) (leaving (envOf qual scope L' f cdv) e) (fun _ s'' => R (.error e) s'') (fun e' s'' => R (.error e') s'') s')
        { s with heap := h₁, toks := s.toks + binds.length })
    (hco : scope.isCoroutine = false) (hgen : scope.isGenerator = false) (hk : scope.kind = .function)
    (hcell : ∀ x ∈ scope.names, x.2 ≠ .cell) : codeC (model prog w) A (.call (.ref f) args) R s := by
  have X := G.X.keeps F.keep
  refine codeC_call_def (fd := fnOf name qual params body scope dV kV doc pm an cdv ct) (body := body) (binds := binds) hroom (X _ _ ho) rfl (G.T.nolimit.keeps F.keep) (codeRec_of X hcd) rfl hbind hcell hloc (fun h₁ hns hk₁ => ?_) hco hgen hk
  obtain ⟨g, G', kg, sz, nn, out⟩ := x_enter G F N hA hf hke
  refine wpC_mono (h g s.heap.objs.size h₁ ⟨hns, fun b o e => hk₁ b o (kg b o e), sz⟩ (fun q hq => ⟨hk₁ _ _ (N q hq).1, Nat.ne_of_lt (Heap.lt_size (N q hq).1), nn q hq⟩) G') (fun fl s' hl => ?_) fun _ _ x => x
  obtain ⟨g', L', m', news', T', F', N', k⟩ := hl
  obtain ⟨h₁', T₁, F₁, N₁⟩ := out g' L' m' news' s'.heap T' F' N'
  exact k h₁' T₁ F₁ N₁ (G.turn T₁)
/-- a def with cells of its own -/
theorem codeC_cells (G : Gnd K p loose mean mg mb A₀ base outer h₀) (F : Fr h₀ L s.heap m) (N : News h₀ L s.heap news) (hA : A.frames = some (env :: outer)) (hf : env.frame = some L) (hke : env.scope.kind = .function)
    (ho : K.lookup f = some ⟨oc, od, .func (fnOf name qual params body scope dV kV doc pm an cdv ct), osl⟩) (hcd : codeIn K cdv qual = true) (hroom : A.depth < recursionLimit)
    (hbind : BindsTo s (fnOf name qual params body scope dV kV doc pm an cdv ct) args binds)
    (hkind : ∀ n, ∀ x ∈ binds, scope.names.lookup x.1 = some .local ∨ (scope.names.lookup x.1 = some .cell ∧ ((cellsFrom n scope.names []).lookup x.1).isSome = true))
    (hnd : ((cellsFrom 0 scope.names []).map (·.1)).Nodup)
    (h : ∀ g L' h₁ tk cells, Fr g L' h₁ (bindL (envOfC qual scope L' f cdv).kindOf binds fun _ => none) → News g L' h₁ (cells ++ news) →
      CellsAre (bindC (envOfC qual scope L' f cdv).kindOf binds fun _ => none) (cellsFrom (L' + 1) scope.names []) cells → Gnd K p loose mean mg mb A base (env :: outer) g → (∀ p ∈ news, p.1 < L') →
      wpC (model prog w) (A.deeper (envOfC qual scope L' f cdv)) (execs body (envOfC qual scope L' f cdv))
        (fun fl s' => LeaveC K p loose mean mg mb A₀ base outer h₀ L m ((env :: outer).filterMap (·.frame)) g R (match fl with | .ret v => v | _ => .none) s')
        (fun e s' => wpAny (model prog w) (A.deeper (envOfC qual scope L' f cdv)) (leaving (envOfC qual scope L' f cdv) e) (fun _ s'' => R (.error e) s'') (fun e' s'' => R (.error e') s'') s')
        { s with heap := h₁, toks := tk })
    (hco : scope.isCoroutine = false) (hgen : scope.isGenerator = false) (hk : scope.kind = .function) : codeC (model prog w) A (.call (.ref f) args) R s := by
  have X := G.X.keeps F.keep
  refine codeC_call_function hroom (X _ _ ho) rfl hco hgen rfl (codeRec_of X hcd) (hbind _ _ _ _ ?_)
  refine wpAny_newFunctionEnv_cells hk (hkind _) fun env' he s' x => ?_
  subst he
  refine ⟨(G.T.nolimit.keeps F.keep).keeps x.toInCall.keep, codeC_func ?_⟩
  obtain ⟨h₁, tk, rfl, _⟩ := x.done
  have hk₁ := x.toInCall.keep
  obtain ⟨g, G', kg, sz, nn, out⟩ := x_enter G F N hA hf hke
  obtain ⟨cells, NC, Y⟩ := Cl.news (h₀ := s.heap) (Nat.le_refl _) fun n c hm => ⟨x.cell n c (lookup_of_mem_nodup (cellsFrom_names scope.names 0 (s.heap.objs.size + 1) [] [] rfl ▸ hnd) hm), x.above n c hm⟩
  refine wpC_mono (h g s.heap.objs.size h₁ tk cells ⟨x.toInCall.ns, fun b o e => hk₁ b o (kg b o e), sz⟩ (fun q hq => ?_) Y G' (fun q hq => Heap.lt_size (N q hq).1)) (fun fl s' hl => ?_) fun _ _ y => y
  · rcases List.mem_append.mp hq with hq | hq
    · refine ⟨(NC q hq).1, (NC q hq).2.1, ?_⟩
      cases e : g.get? q.1 with
      | none => rfl
      | some o => have := kg _ _ e; rw [(NC q hq).2.2] at this; cases this
    · exact ⟨hk₁ _ _ (N q hq).1, Nat.ne_of_lt (Heap.lt_size (N q hq).1), nn q hq⟩
  · obtain ⟨g', L', m', news', T', F', N', k⟩ := hl
    obtain ⟨h₁', T₁, F₁, N₁⟩ := out g' L' m' news' s'.heap T' F' N'
    exact k h₁' T₁ F₁ N₁ (G.turn T₁)
end
end
section
open PySem PySem.W PyProof.Rows PySem.Calls PySem.Spec
/-- a call's claim on the stacks that bear the caller: the grounds may turn -/
noncomputable abbrev CtC (w : World) (f : Addr) (vs : List Value) (Ret : (Heap → Prop) → (Value → Shared → Prop) → Addr → (Str → Option Value) → List (Addr × Obj) → Shared → Prop) : Prop :=
  ∀ (mean : ExcName → Option Value) (mg mb : Str → Option Value) (cn : Str) (cs : Scope) (a : Addr) (ccd : Value) (cl : List (Str × Addr)) (outer : List Env) (A₀ : Around) (base h₀ : Heap) (L : Addr) (m : Str → Option Value) (news : List (Addr × Obj)) (s : Shared) (Q E : Value → Shared → Prop),
    G2 w mean mg mb A₀ base outer h₀ → Fr h₀ L s.heap m → News h₀ L s.heap news → cs.kind = .function →
    Ret (fun h₁ => KtsTurn (outer.filterMap (·.frame)) h₀ h₁ ∧ G2 w mean mg mb A₀ base outer h₁) Q L m news s → wpC (model PP w) (A2 cn cs L a ccd cl outer) (call (.ref f) vs) Q E s
noncomputable abbrev RetTC (x : Str × Str × Str) : (Heap → Prop) → (Value → Shared → Prop) → Addr → (Str → Option Value) → List (Addr × Obj) → Shared → Prop := fun P Q L m news s =>
  ∀ (D : Addr) (t1 t2 t3 : Tok) (n : Nat) (h₁ h' : Heap) (tk' : Nat), P h₁ → Fr h₁ L h' m → News h₁ L h' ((D, tupO #[.str x.1 t1, .str x.2.1 t2, .str x.2.2 t3] n) :: news) →
    Q (.ref D) { s with heap := h', toks := tk' }
theorem endTC {w : World} {mean : ExcName → Option Value} {mg mb : Str → Option Value} {outer : List Env} {A₀ : Around} {base h₀ g g' : Heap} {L L' : Addr} {m m' : Str → Option Value} {news news' : List (Addr × Obj)} {s : Shared} {Q E : Value → Shared → Prop} {fs : List Addr} {h' : Heap} {tk : Nat}
    {x : Str × Str × Str} {p q r : Str} {D : Addr} {t1 t2 t3 : Tok} {n : Nat}
    (hret : RetTC x (fun h₁ => KtsTurn (outer.filterMap (·.frame)) h₀ h₁ ∧ G2 w mean mg mb A₀ base outer h₁) Q L m news s) (e : x = (p, q, r)) (T : KtsTurn fs g g') (F : Fr g' L' h' m') (N : News g' L' h' ((D, tupO #[.str p t1, .str q t2, .str r t3] n) :: news')) (hs : ∀ y ∈ news, y ∈ news') :
    LeaveC (hd.heap_39 w.params) topProg LO mean mg mb A₀ base outer h₀ L m fs g (fun r s' => match r with | .ok (.ret v) => Q v s' | .ok _ => False | .error e => E e s') (.ref D) { s with heap := h', toks := tk } := by
  subst e
  refine ⟨g', L', m', _, T, F, N, fun h₁ T₁ F₁ N₁ G₁ => hret D t1 t2 t3 n h₁ h' tk ⟨T₁, G₁⟩ F₁ fun y hy => ?_⟩
  rcases List.mem_cons.mp hy with rfl | hy
  · exact N₁ _ (.head _)
  · exact N₁ _ (.tail _ (hs y hy))
theorem any2 (a b x : Str) : ([a, b].any fun y => y == x) = (x == a || x == b) := by
  rw [List.any_cons, List.any_cons, List.any_nil, Bool.or_false, BEq.comm (a := a), BEq.comm (a := b)]
theorem split_ne (x y : Str) : Txt.split x y ≠ [] := by
  unfold Txt.split
  split
  · exact List.cons_ne_nil _ _
  · split
    · exact List.cons_ne_nil _ _
    · intro h
      have := congrArg List.length h
      rw [length_partsBetween] at this
      simp at this
noncomputable def relNew (y : Str) : Str :=
  match Txt.split y (Str.ofString ".") with
  | [] => y
  | h :: t => match PySem.intText? h with
    | some n => Txt.join (Str.ofString ".") (Str.ofString (toString (n - 3)) :: t)
    | none => y
noncomputable def sysal (x y z : Str) : Str × Str × Str :=
  if (x == Str.ofString "SunOS") = true then if y.cps.toList < (Str.ofString "5").cps.toList then (x, y, z) else (Str.ofString "Solaris", relNew y, z)
  else if (x == Str.ofString "win32" || x == Str.ofString "win16") = true then (Str.ofString "Windows", y, z) else (x, y, z)
set_option maxRecDepth 100000 in
set_option maxHeartbeats 2000000 in
theorem ct_sysalias (w : World) (x y z : Str) (t1 t2 t3 : Tok) (hx : x.length ≤ 100) (hy : y.length ≤ 100) (hz : z.length ≤ 100) (hc : ∀ c ∈ y.cps.toList, c < 128)
    (hi : ¬ (y.cps.toList < (Str.ofString "5").cps.toList) → ∀ h t n, Txt.split y (Str.ofString ".") = h :: t → PySem.intText? h = some n → 0 ≤ n ∧ n < 1000) (hs : ∀ h ∈ Txt.split y (Str.ofString "."), ∀ c ∈ h.cps.toList, c ∈ y.cps.toList) :
    CtC w 21 [Value.str x t1, Value.str y t2, Value.str z t3] (RetTC (sysal x y z)) := by
  (w_top off; k_with_none; (have hz9 : PySem.Challenge.rw_mj0138_01 = PySem.Challenge.rw_mj0138_01 ∧ hd.heap_39 = hd.heap_39 := by (k_fill; exact ⟨rfl, rfl⟩)); clear hz9)
  intro mean mg mb cn cs a ccd cl outer A₀ base h₀ L m news s Q E kG kF0 kN0 kK hret
  obtain ⟨kB, kX, kT, kXB, kTB, kD⟩ := id kG
  refine wpC_call ?_
  refine' codeC_defX (env := envX cn cs L a ccd cl) (binds := [(Str.ofString "system", Value.str x t1), (Str.ofString "release", Value.str y t2), (Str.ofString "version", Value.str z t3)]) kG kF0 kN0 rfl rfl kK ?k6 ?k7 ?k8 ?k9 ?kB ?_ ?c2 ?c3 ?c4 ?c5
  (case k6 => k_is); (case k7 => k_is); (case k8 => k_room); (case k9 => exact BindsTo.of_eq rfl); (case c5 => decide); (case kB => exact locs rfl); (case c2 => exact rfl); (case c3 => exact rfl); (case c4 => exact rfl)
  k_whole; intro g' L' h' F' N' G'; (try dsimp only)
  obtain ⟨B', X', T', XB', TB', D'⟩ := id G'
  (try k_lift B'); (try k_fold)
  clear kB kX kT kXB kTB kD XB' TB' D'
  have hlt0 : ∀ p ∈ news, p.1 < h'.objs.size := fun p hp => Heap.lt_size (N' p hp).1
  refine wpC_execs_first ?_
  refine wpC_If ?_
  (repeat' (first | (k_unfold; (try dsimp only)) | walk1 | (dsimp only; walk1) | fail "no step"))
  · refine wpC_execs_later ?_
    (repeat' (first | (k_unfold; (try dsimp only)) | walk1 | (dsimp only; walk1) | fail "no step"))
    · refine endTC hret ?_ KtsTurn.refl (by assumption) (by assumption) fun _ h => h
      unfold sysal
      rw [if_pos (by assumption), if_pos (by assumption)]
    refine wpC_execs_later ?_
    (repeat' (first | (k_unfold; (try dsimp only)) | walk1 | (dsimp only; walk1) | fail "no step"))
    rename (List.map _ _ = Txt.split _ _) => hM
    rename List (Str × Tok) => l9
    obtain _ | ⟨⟨hd9, th9⟩, tl9⟩ := l9
    · exact absurd hM.symm (split_ne _ _)
    simp only [strValues, List.map] at *
    have hlen9 : tl9.length ≤ 200 := by
      have h1 := congrArg List.length hM
      have h2 := split_count y (Str.ofString ".")
      rw [← hM] at h2
      simp only [List.length_cons, List.length_map] at h2
      omega
    refine wpC_execs_first ?_
    refine wpC_If ?_
    (repeat' (first | (k_unfold; (try dsimp only)) | walk1 | (dsimp only; walk1) | fail "no step"))
    refine wpAny_truthy_list (News.isList (by assumption) (.head _)) (by simp; omega) ?_
    refine (if_pos (by simp)).mpr ?_
    refine wpC_execs_first ?_
    refine wpC_Try ?_
    refine wpC_execs_first ?_
    refine wpC_Assign_Name ?_
    refine wpC_Call_Name ?_
    (repeat' (first | (k_unfold; (try dsimp only)) | walk1 | (dsimp only; walk1) | fail "no step"))
    refine wpC_callWith_type1 ?_
    (repeat' (first | (k_unfold; (try dsimp only)) | walk1 | (dsimp only; walk1) | fail "no step"))
    have hAll : ∀ a ∈ hd9 :: List.map (fun x => x.fst) tl9, a.length ≤ y.length := by assumption
    have hhd : hd9.length ≤ 100 := Nat.le_trans (hAll _ (.head _)) hy
    cases hint : PySem.intText? hd9 with
    | none =>
      refine int_raises rfl (by omega) (fun c hm => Nat.lt_trans (hc c (hs hd9 (by rw [← hM]; exact .head _) c hm)) (by decide)) hint ?_
      intro h8 tk8 e8 hx8
      dsimp only at hx8 ⊢
      refine caught_own (T' := "ValueError") G' hx8 (by assumption) (by assumption) ?ex PyProof.Rows.Boot.«ValueError» ?hn PySem.F.isExc_ValueError PySem.F.notTuple_ValueError ?hs ?_
      case ex => k_is
      case hn => decide
      case hs => kts_sub
      rename Fr _ _ _ _ => Fo
      rename News _ _ _ _ => No
      clear Fo No
      intro h7 g7 T7 F' N' G7
      obtain ⟨B', X', T', XB', TB', D'⟩ := id G7
      (try k_lift B')
      (repeat' (first | (k_unfold; (try dsimp only)) | walk1 | (dsimp only; walk1) | fail "no step"))
      all_goals
        refine endTC hret ?_ T7 (by assumption) (by assumption) (fun y hy => .tail _ hy)
        unfold sysal relNew
        rw [if_pos (by assumption), if_neg (by assumption), ← hM]
        dsimp only
        rw [hint]
    | some n =>
      obtain ⟨hn0, hn1⟩ := hi (by assumption) _ _ _ hM.symm hint
      refine wpC_of_any (KIN.call_text hint (by omega) ?_)
      (repeat' (first | (k_unfold; (try dsimp only)) | ((fail_if_success (with_reducible show wpAny _ _ (PySem.call (Value.builtin "str.join") _) _ _ _)); first | walk1 | (dsimp only; walk1)) | fail "no step"))
      have hl3 : (Str.ofString (toString (n - 3))).length ≤ 10 := by
        have : n = 0 ∨ n = 1 ∨ n = 2 ∨ (0 ≤ n - 3 ∧ n - 3 < 10 ^ 10) := by omega
        rcases this with rfl | rfl | rfl | ⟨h1, h2⟩
        · decide
        · decide
        · decide
        · exact KT.len_num h1 h2
      refine' join_list (ys := Str.ofString (toString (n - 3)) :: List.map (fun x => x.fst) tl9) ?hl ?hi ?hok ?_
      case hl => exact News.isList (by assumption) (.head _)
      case hi => 
        rename StrsAre _ _ => hS9
        cases hS9 with | cons _ _ r => exact .cons _ _ r
      case hok =>
        have h1 := sum_le (B := 100) (List.map (fun x => x.fst) tl9) fun a ha => Nat.le_trans (hAll a (.tail _ ha)) hy
        simp only [List.map_cons, List.sum_cons, List.length_cons, List.length_map] at h1 ⊢
        have h2 : (Str.ofString ".").length = 1 := rfl
        rw [h2]
        omega
      intro t9 k9
      dsimp only
      (repeat' (first | (k_unfold; (try dsimp only)) | walk1 | (dsimp only; walk1) | fail "no step"))
      all_goals
        refine endTC hret ?_ KtsTurn.refl (by assumption) (by assumption) (fun y hy => .tail _ hy)
        unfold sysal relNew
        rw [if_pos (by assumption), if_neg (by assumption), ← hM]
        dsimp only
        rw [hint]
  · refine wpC_of_any ?_
    (repeat' (first | (k_unfold; (try dsimp only)) | walk1 | (dsimp only; walk1) | fail "no step"))
    all_goals
      rename ((List.any _ _) = _) => hw9
      refine endTC hret ?_ KtsTurn.refl (by assumption) (by assumption) (fun y hy => .tail _ hy)
      unfold sysal
      rw [any2] at hw9
      rw [if_neg (by simp [*]), hw9]
      rfl
end
section
open PySem PySem.W PyProof.Rows PySem.Calls PySem.Spec
open PySem PyProof.Rows
theorem lt5_cons (c : Nat) (m : List Nat) : (c :: m < [53]) ↔ c < 53 := by
  rw [← decide_eq_true_iff (p := c :: m < [53]), StrLaws.lt_cons_cons]
  have : decide (m < []) = false := by cases m with
    | nil => exact StrLaws.lt_nil_nil
    | cons a r => exact StrLaws.lt_cons_nil a r
  rw [this, Bool.and_false, Bool.or_false, decide_eq_true_iff]
theorem five : (S "5").cps.toList = [53] := rfl
noncomputable abbrev lowL : List Nat := [46, 45, 48, 49, 50, 51, 52]
theorem firsts_one (c : Nat) : (firsts.any fun x => x == (⟨#[c]⟩ : Str)) = true ↔ c ∈ lowL := by
  rw [List.any_eq_true]
  constructor
  · rintro ⟨x, hx, he⟩
    rw [beq_iff_eq] at he
    subst he
    simp only [firsts, List.mem_cons, List.not_mem_nil, or_false] at hx
    have e : ∀ {d : Nat}, (⟨#[c]⟩ : Str) = ⟨#[d]⟩ → c = d := fun q => beq_iff_eq.mp ((one_eq _ _).symm.trans (beq_iff_eq.mpr q))
    rcases hx with q | q | q | q | q | q | q | q
    · exact absurd (show 1 = 0 from congrArg Str.length q) (by decide)
    · rw [e (d := 46) q]; decide
    · rw [e (d := 45) q]; decide
    · rw [e (d := 48) q]; decide
    · rw [e (d := 49) q]; decide
    · rw [e (d := 50) q]; decide
    · rw [e (d := 51) q]; decide
    · rw [e (d := 52) q]; decide
  · intro h
    refine ⟨⟨#[c]⟩, ?_, beq_self_eq_true _⟩
    simp only [lowL, List.mem_cons, List.not_mem_nil, or_false] at h
    rcases h with rfl | rfl | rfl | rfl | rfl | rfl | rfl <;> decide
/-- what the first sign of a release tells -/
theorem first_law (x : Str) (h : ∀ c m, ls x = c :: m → c < 53 → c ∈ [45, 46, 48, 49, 50, 51, 52]) :
    (firsts.any fun y => y == Txt.slice x none (some 1)) = true ↔ x.cps.toList < (S "5").cps.toList := by
  rw [five]
  have e := slice_first x
  cases hl : ls x with
  | nil =>
    rw [hl] at e
    have e2 : Txt.slice x none (some 1) = S "" := str_ext e
    have e3 : x.cps.toList = [] := hl
    rw [e2, e3]
    exact ⟨fun _ => by decide, fun _ => by decide⟩
  | cons c m =>
    rw [hl] at e
    have e2 : Txt.slice x none (some 1) = ⟨#[c]⟩ := str_ext e
    have e3 : x.cps.toList = c :: m := hl
    rw [e2, e3, firsts_one, lt5_cons]
    exact ⟨fun q => (show ∀ d ∈ lowL, d < 53 by decide) c q, fun q => (show ∀ d ∈ ([45, 46, 48, 49, 50, 51, 52] : List Nat), d ∈ lowL by decide) c (h c m hl q)⟩
theorem head_first {h r : Str} {c : Nat} {m : List Nat} (hn : ls h ≠ []) (e : ls (h ++ r) = c :: m) : c ∈ ls h := by
  rw [ls_app] at e
  cases hl : ls h with
  | nil => exact absurd hl hn
  | cons a t =>
    rw [hl] at e
    injection e with e1 e2
    rw [e1]; exact .head _
theorem not_dot {i : Int} (F : FigOk i) : 46 ∉ ls (fig i) := fun q => by have := F.dig _ q; omega
/-- what a release becomes -/
noncomputable def RelLaw (t : Str) (mv : Option Str) : Prop :=
  (t.cps.toList < (S "5").cps.toList ∧ mv = none) ∨ (¬ t.cps.toList < (S "5").cps.toList ∧ ∃ x, mv = some x ∧ relNew t = x ∧ ∀ h l n, Txt.split t (S ".") = h :: l → PySem.intText? h = some n → 0 ≤ n ∧ n < 1000)
theorem new_some {h r : Str} {n : Int} (hh : 46 ∉ ls h) (hr : RestOk r) (hi : PySem.intText? h = some n) (hn : 0 ≤ n ∧ n < 1000) :
    relNew (h ++ r) = fig (n - 3) ++ r ∧ ∀ a l k, Txt.split (h ++ r) (S ".") = a :: l → PySem.intText? a = some k → 0 ≤ k ∧ k < 1000 := by
  obtain ⟨t, e, j⟩ := split_head hh hr.1
  refine ⟨?_, fun a l k e2 hk => ?_⟩
  · unfold relNew
    rw [e]
    dsimp only
    rw [hi]
    exact j _
  · rw [e] at e2
    injection e2 with e3 _
    rw [← e3, hi] at hk
    rw [← Option.some.inj hk]; exact hn
theorem new_none {h r : Str} (hh : 46 ∉ ls h) (hr : RestOk r) (hi : PySem.intText? h = none) :
    relNew (h ++ r) = h ++ r ∧ ∀ a l k, Txt.split (h ++ r) (S ".") = a :: l → PySem.intText? a = some k → 0 ≤ k ∧ k < 1000 := by
  obtain ⟨t, e, j⟩ := split_head hh hr.1
  refine ⟨?_, fun a l k e2 hk => ?_⟩
  · unfold relNew
    rw [e]
    dsimp only
    rw [hi]
  · rw [e] at e2
    injection e2 with e3 _
    rw [← e3, hi] at hk
    cases hk
theorem rel_low {t : Str} {mv : Option Str} (hf : ∀ c m, ls t = c :: m → c < 53 → c ∈ [45, 46, 48, 49, 50, 51, 52]) {z : Option Str} (hm : mv = if (firsts.any fun y => y == Txt.slice t none (some 1)) = true then none else z)
    (hz : ¬ t.cps.toList < (S "5").cps.toList → ∃ x, z = some x ∧ relNew t = x ∧ ∀ h l n, Txt.split t (S ".") = h :: l → PySem.intText? h = some n → 0 ≤ n ∧ n < 1000) : RelLaw t mv := by
  have e := first_law t hf
  by_cases h : t.cps.toList < (S "5").cps.toList
  · exact .inl ⟨h, by rw [hm, if_pos (e.mpr h)]⟩
  · exact .inr ⟨h, by rw [hm, if_neg (fun q => h (e.mp q))]; exact hz h⟩
theorem low_of {t : Str} {c : Nat} {m : List Nat} (e : ls t = c :: m) (h : c < 53) : t.cps.toList < (S "5").cps.toList := by
  rw [five, show t.cps.toList = c :: m from e, lt5_cons]; exact h
theorem low_nil {t : Str} (e : ls t = []) : t.cps.toList < (S "5").cps.toList := by
  rw [five, show t.cps.toList = [] from e]; decide
theorem rel_law {i1 i2 i3 i4 : Int} (h1 : 0 ≤ i1 ∧ i1 < 8) (h2 : 0 ≤ i2 ∧ i2 < 120) : RelLaw (relText i1 i2 i3 i4) (relMv i1 i2 i3 i4) := by
  have F := fig_ok h2
  have R := rest_ok i3 i4
  have hd := not_dot F
  have hn : 0 ≤ i2 ∧ i2 < 1000 := by omega
  have h8 : i1 = 0 ∨ i1 = 1 ∨ i1 = 2 ∨ i1 = 3 ∨ i1 = 4 ∨ i1 = 5 ∨ i1 = 6 ∨ i1 = 7 := by omega
  have digs : ∀ c ∈ ls (fig i2), c < 53 → c ∈ [45, 46, 48, 49, 50, 51, 52] := fun c hc h => by
    have := F.dig c hc
    simp only [List.mem_cons, List.not_mem_nil, or_false]; omega
  rcases h8 with rfl | rfl | rfl | rfl | rfl | rfl | rfl | rfl
  · have e : relText 0 i2 i3 i4 = fig i2 ++ relRest i3 i4 := rfl
    refine rel_low (z := some (fig (i2 - 3) ++ relRest i3 i4)) (fun c m hc h => digs c ?_ h) rfl fun _ => ?_
    · rw [e] at hc; exact head_first F.ne hc
    · rw [e]; exact ⟨_, rfl, new_some hd R F.i0 hn⟩
  · have e : relText 1 i2 i3 i4 = S "0" ++ fig i2 ++ relRest i3 i4 := rfl
    have e2 : ls (relText 1 i2 i3 i4) = 48 :: (ls (fig i2) ++ ls (relRest i3 i4)) := by rw [e, ls_app, ls_app]; rfl
    refine rel_low (z := some (relText 1 i2 i3 i4)) (fun c m hc h => ?_) rfl fun q => absurd (low_of e2 (by decide)) q
    rw [e2] at hc; injection hc with hc _; rw [← hc]; decide
  · have e : relText 2 i2 i3 i4 = fig i2 ++ S " " ++ relRest i3 i4 := rfl
    have hd2 : 46 ∉ ls (fig i2 ++ S " ") := fun q => by
      rw [ls_app] at q
      rcases List.mem_append.mp q with q | q
      · exact hd q
      · exact absurd q (by decide)
    refine rel_low (z := some (fig (i2 - 3) ++ relRest i3 i4)) (fun c m hc h => digs c ?_ h) rfl fun _ => ?_
    · rw [e, Str.append_assoc] at hc; exact head_first F.ne hc
    · rw [e]; exact ⟨_, rfl, new_some hd2 R F.i2 hn⟩
  · have e : relText 3 i2 i3 i4 = fig i2 ++ S "x" ++ relRest i3 i4 := rfl
    have hd2 : 46 ∉ ls (fig i2 ++ S "x") := fun q => by
      rw [ls_app] at q
      rcases List.mem_append.mp q with q | q
      · exact hd q
      · exact absurd q (by decide)
    refine rel_low (z := some (relText 3 i2 i3 i4)) (fun c m hc h => digs c ?_ h) rfl fun _ => ?_
    · rw [e, Str.append_assoc] at hc; exact head_first F.ne hc
    · rw [e]; exact ⟨_, rfl, new_none hd2 R F.i3⟩
  · have e : relText 4 i2 i3 i4 = S "B" ++ fig i2 ++ relRest i3 i4 := rfl
    have hd2 : 46 ∉ ls (S "B" ++ fig i2) := fun q => by
      rw [ls_app] at q
      rcases List.mem_append.mp q with q | q
      · exact absurd q (by decide)
      · exact hd q
    have e2 : ls (relText 4 i2 i3 i4) = 66 :: (ls (fig i2) ++ ls (relRest i3 i4)) := by rw [e, ls_app, ls_app]; rfl
    refine rel_low (z := some (relText 4 i2 i3 i4)) (fun c m hc h => ?_) rfl fun _ => ?_
    · rw [e2] at hc; injection hc with hc _; omega
    · rw [e]; exact ⟨_, rfl, new_none hd2 R F.i4⟩
  · have e : relText 5 i2 i3 i4 = S "-" ++ fig i2 ++ relRest i3 i4 := rfl
    have e2 : ls (relText 5 i2 i3 i4) = 45 :: (ls (fig i2) ++ ls (relRest i3 i4)) := by rw [e, ls_app, ls_app]; rfl
    refine rel_low (z := some (relText 5 i2 i3 i4)) (fun c m hc h => ?_) rfl fun q => absurd (low_of e2 (by decide)) q
    rw [e2] at hc; injection hc with hc _; rw [← hc]; decide
  · have e : relText 6 i2 i3 i4 = S "" ++ relRest i3 i4 := rfl
    have e2 : ls (relText 6 i2 i3 i4) = ls (relRest i3 i4) := by rw [e, ls_app]; rfl
    rcases R.1 with hR | ⟨m', hR⟩
    · rw [hR] at e2
      refine rel_low (z := some (relText 6 i2 i3 i4)) (fun c m hc h => ?_) rfl fun q => absurd (low_nil e2) q
      rw [e2] at hc; cases hc
    · rw [hR] at e2
      refine rel_low (z := some (relText 6 i2 i3 i4)) (fun c m hc h => ?_) rfl fun q => absurd (low_of e2 (by decide)) q
      rw [e2] at hc; injection hc with hc _; rw [← hc]; decide
  · have e : relText 7 i2 i3 i4 = fig i2 ++ relRest i3 i4 := rfl
    refine rel_low (z := some (fig (i2 - 3) ++ relRest i3 i4)) (fun c m hc h => digs c ?_ h) rfl fun _ => ?_
    · rw [e] at hc; exact head_first F.ne hc
    · rw [e]; exact ⟨_, rfl, new_some hd R F.i0 hn⟩
/-- the signs of a release -/
theorem rel_chars {i1 i2 i3 i4 : Int} (h1 : 0 ≤ i1 ∧ i1 < 8) (h2 : 0 ≤ i2 ∧ i2 < 120) : ∀ c ∈ ls (relText i1 i2 i3 i4), 32 ≤ c ∧ c < 127 ∧ c ≠ 44 := by
  intro c hc
  have F := fig_ok h2
  have R := rest_ok i3 i4
  unfold relText at hc
  rw [ls_app] at hc
  rcases List.mem_append.mp hc with hc | hc
  · have h8 : i1 = 0 ∨ i1 = 1 ∨ i1 = 2 ∨ i1 = 3 ∨ i1 = 4 ∨ i1 = 5 ∨ i1 = 6 ∨ i1 = 7 := by omega
    have one : ∀ (a b : Str), c ∈ ls (a ++ b) → (∀ x ∈ ls a, 32 ≤ x ∧ x < 127 ∧ x ≠ 44) → (∀ x ∈ ls b, 32 ≤ x ∧ x < 127 ∧ x ≠ 44) → 32 ≤ c ∧ c < 127 ∧ c ≠ 44 := fun a b hc ha hb => by
      rw [ls_app] at hc
      rcases List.mem_append.mp hc with hc | hc
      · exact ha c hc
      · exact hb c hc
    have hf : ∀ x ∈ ls (fig i2), 32 ≤ x ∧ x < 127 ∧ x ≠ 44 := fun x hx => by have := F.dig x hx; omega
    rcases h8 with rfl | rfl | rfl | rfl | rfl | rfl | rfl | rfl
    · exact hf c hc
    · exact one (S "0") (fig i2) hc (by decide) hf
    · exact one (fig i2) (S " ") hc hf (by decide)
    · exact one (fig i2) (S "x") hc hf (by decide)
    · exact one (S "B") (fig i2) hc (by decide) hf
    · exact one (S "-") (fig i2) hc (by decide) hf
    · exact nomatch (show c ∈ ls (S "") from hc)
    · exact hf c hc
  · have := R.2 c hc
    simp only [List.mem_cons, List.not_mem_nil, or_false] at this
    omega
theorem sysal_al3 {sys t ver : Str} {mv : Option Str} (h : RelLaw t mv) : sysal sys t ver = al3 sys t mv ver := by
  unfold sysal al3
  cases hs : sys == S "SunOS" with
  | false =>
    rw [if_neg Bool.false_ne_true]
  | true =>
    rw [if_pos rfl]
    rcases h with ⟨h1, rfl⟩ | ⟨h1, x, rfl, h2, _⟩
    · rw [if_pos h1]
      rw [show sys = S "SunOS" from beq_iff_eq.mp hs]
      rfl
    · rw [if_neg h1, h2]
end
section
open PySem PySem.W PyProof.Rows PySem.Calls PySem.Spec
set_option maxRecDepth 100000
theorem lo_sub : ((([] : List Str) ++ (recsOf hd.view_39).map (fun e => DefRec.name e) ++ (litsOf hd.view_39).map (·.1) ++ (clssOf hd.view_39 []).map (fun e => ClsRec.name e)).all fun x => LO.contains x) = true := by kernel_rfl
theorem top_lo {mean : ExcName → Option Value} {mg mb : Str → Option Value} {h : Heap} {loose : List Str} (hl : (loose.all fun x => LO.contains x) = true) (T : Top topProg loose mean mg mb h) : Top topProg LO mean mg mb h where
  g := T.g
  b := T.b
  nolimit := T.nolimit
  nodigits := T.nodigits
  fn := T.fn
  own := T.own
  const := T.const
  free := fun x h1 h2 h3 h4 h5 => T.free x h1 (fun hm => h2 (by
    have := List.all_eq_true.mp hl x hm
    exact List.contains_iff_mem.mp this)) h3 h4 (fun q => absurd (show x ∈ ([] : List Str) from q) List.not_mem_nil)
  builtins := T.builtins
  tab := T.tab
  bmain := T.bmain
  seer := T.seer
end
section
open PySem PySem.W PyProof.Rows PySem.Calls PySem.Spec
noncomputable abbrev PO : Pos := ⟨24, 24, 24, 62⟩
/-- the machine's claim -/
noncomputable abbrev CtM (w : World) (x : Int) (t : Tok) : Prop :=
  ∀ (mean : ExcName → Option Value) (mg mb : Str → Option Value) (cn : Str) (cs : Scope) (a : Addr) (ccd : Value) (base h₀ : Heap) (L : Addr) (m : Str → Option Value) (ps : Array Value) (news : List (Addr × Obj)) (s : Shared) (Q E : Value → Shared → Prop),
    G2 w mean mg mb callerA base [] h₀ → Fr h₀ L s.heap m → News h₀ L s.heap ((23, tabObj ps) :: news) → (∀ p ∈ news, 23 < p.1) → TabOk PO ps → AllBare s.gens → cs.kind = .function →
    (∀ s' ps', Fr h₀ L s'.heap m → News h₀ L s'.heap ((23, tabObj ps') :: news) → TabOk PO ps' → AllBare s'.gens → s'.os = s.os → Q (.bool true) s') →
    wpC (model PP w) (A1 cn cs L a ccd) (call (.ref 85) [.int x t]) Q E s
theorem mach_there (w : World) : ∃ o fd, (hd.heap_39 w.params).lookup 85 = some o ∧ o.data = .func fd := ⟨_, _, rfl, rfl⟩
/-- the state between two turns of the law's loop -/
noncomputable def LInv (h₀ : Heap) (L : Addr) (s₁ : Shared) (it D : Addr) (vs : List Value) (n : Nat) (k : Nat) (s' : Shared) : Prop :=
  ∃ m i o ps, s'.os = s₁.os ∧ AllBare s'.gens ∧ TabOk PO ps ∧ o.cls = .type "list_iterator" ∧ o.data = .fields #[.ref D, .int (i : Nat) 0] ∧ Fr h₀ L s'.heap m ∧ News h₀ L s'.heap ((23, tabObj ps) :: [(it, o), (D, listOf vs.toArray 0)]) ∧ it ≠ D ∧ 23 < it ∧ 23 < D ∧ i ≤ n ∧ k = n + 1 - i
noncomputable abbrev lawScope : Scope := { kind := .function, names := [(Str.ofString "script", NameKind.local), (Str.ofString "x", NameKind.local), (Str.ofString "_law_machine", NameKind.globalImplicit)], isGenerator := false, isCoroutine := false }
set_option maxRecDepth 100000 in
set_option maxHeartbeats 2000000 in
theorem law_loop (w : World) (H : ∀ x t, CtM w x t) {mean : ExcName → Option Value} {mg mb : Str → Option Value} {g : Heap} {s₁ : Shared} {L fa it D : Addr} {cd : Value} {us : List Value} {is : List Int} {p0 p1 p2 p3 p4 p5 p6 p7 : Pos} {R : Result → Shared → Prop} {s : Shared}
    (hbase : G2 w mean mg mb callerA g [] g) (hI : IntsAre us is) (h0 : LInv g L s₁ it D us is.length (is.length + 1) s)
    (hR : ∀ s' m ps, Fr g L s'.heap m → News g L s'.heap [(23, tabObj ps)] → AllBare s'.gens → s'.os = s₁.os → R (.ok .next) s') :
    codeC (model PP w) (A1 (Str.ofString "law") lawScope L fa cd) (.forLoop (.Name (Str.ofString "x") p0) (.ref it) [.If (.UnaryOp .Not (.Call (.Name (Str.ofString "_law_machine") p1) [.Name (Str.ofString "x") p2] [] p3) p4) [.Return (some (.Constant (.bool false) 0 p5)) p6] [] p7] [] (envOf (Str.ofString "law") lawScope L fa cd)) R s := by
  (w_top off; k_with_none; (have hz9 : PySem.Challenge.rw_mj0138_01 = PySem.Challenge.rw_mj0138_01 ∧ hd.heap_39 = hd.heap_39 := by (k_fill; exact ⟨rfl, rfl⟩)); clear hz9)
  refine codeC_forLoop (LInv g L s₁ it D us is.length) ?_ (is.length + 1) h0
  rintro k s' ⟨m, i, o, ps, hos, hG, hps, hc1, hd1, F2, N2, hne, hti, htD, hi, rfl⟩
  obtain ⟨B', X', T', XB', TB', D'⟩ := id hbase
  have hlen := hI.length
  have hget : s'.heap.get? it = some o := (N2 _ (.tail _ (.head _))).1
  have hit : s'.heap.IsListIter it D i := ⟨o, hget, hc1, hd1⟩
  have hl : s'.heap.IsList D us.toArray := News.isList N2 (.tail _ (.tail _ (.head _)))
  by_cases hlt : i < is.length
  · obtain ⟨v, hv⟩ : ∃ v, us[i]? = some v := ⟨us[i]'(by omega), List.getElem?_eq_getElem (by omega)⟩
    obtain ⟨n, t, rfl, hn⟩ := hI.at i v hv
    refine wpAny_pyNext_list_item hit hl (by simpa using hv) fun h3 hit3 hs3 => ?_
    obtain ⟨o3, ho3, hc3, hd3⟩ := hit3
    have F3 : Fr g L h3 m := F2.change hs3 (N2 _ (.tail _ (.head _))).2.1 (N2 _ (.tail _ (.head _))).2.2
    have N3 : News g L h3 ((23, tabObj ps) :: [(it, o3), (D, listOf us.toArray 0)]) := by
      intro q hq
      rcases List.mem_cons.mp hq with rfl | hq
      · have z := N2 _ (.head _)
        exact ⟨(hs3.2 _ (Nat.ne_of_lt hti)).trans z.1, z.2⟩
      rcases List.mem_cons.mp hq with rfl | hq
      · exact ⟨ho3, (N2 _ (.tail _ (.head _))).2⟩
      · rw [List.mem_singleton.mp hq]
        have z := N2 _ (.tail _ (.tail _ (.head _)))
        exact ⟨(hs3.2 _ hne.symm).trans z.1, z.2⟩
    clear F2 N2
    dsimp only
    refine wpAny_assign_Name (stN F3 N3 fun h4 F' N' => ?_)
    clear F3 N3
    dsimp only
    refine wpC_execs_first ?_
    refine wpC_IfC ?_
    refine wpC_isTrue_not ?_
    refine wpC_isTrue_plain ?_
    refine wpC_Call_Name ?_
    (repeat' (first | (k_unfold; (try dsimp only)) | walk1 | (dsimp only; walk1) | fail "no step"))
    refine wpC_callWith_fun1 ?_
    (repeat' (first | (k_unfold; (try dsimp only)) | walk1 | (dsimp only; walk1) | fail "no step"))
    obtain ⟨o8, fd8, ho8, hd8⟩ := mach_there w
    refine ⟨⟨o8, fd8, F'.keep _ _ (X' _ _ ho8), hd8⟩, ?_⟩
    refine H n t mean mg mb (Str.ofString "law") lawScope fa cd g g L _ ps _ _ _ _ hbase F' N' ?_ hps hG rfl ?_
    · intro p hp
      rcases List.mem_cons.mp hp with rfl | hp
      · exact hti
      · rw [List.mem_singleton.mp hp]; exact htD
    clear F' N'
    intro s5 ps5 F' N' hps5 hG5 hos5
    refine wpAny_truthy_bool ?_
    refine wpAny_execs_nil ?_
    refine wpAny_execs_nil ?_
    exact ⟨is.length + 1 - (i + 1), by omega, _, i + 1, o3, ps5, hos5.trans hos, hG5, hps5, hc3, hd3, F', N', hne, hti, htD, hlt, rfl⟩
  · have hin : i = is.length := by omega
    subst hin
    refine wpAny_pyNext_list_end rfl hit hl (by simp; omega) fun h3 hs3 => ?_
    refine wpAny_execs_nil ?_
    have z := N2 _ (.tail _ (.head _))
    refine hR _ m ps ⟨F2.ns.at' fun o e => hs3 _ o (Ne.symm z.2.1) e, fun b o e => hs3 b o (fun q => ?_) (F2.keep b o e), F2.above⟩ (fun q hq => ?_) hG hos
    · subst q
      rw [z.2.2] at e
      cases e
    · rw [List.mem_singleton.mp hq]
      have z2 := N2 _ (.head _)
      exact ⟨hs3 _ _ (Nat.ne_of_lt hti) z2.1, z2.2⟩
set_option maxRecDepth 100000 in
set_option maxHeartbeats 2000000 in
theorem law_holds (H : ∀ w x t, CtM w x t) : PySem.Challenge.rw_mj0138_01.Holds := by
  refine hd ?_
  k_fill
  intro w s₀ s₁ mg mb G Y fa o pm cd doc dV kV ho hda hcd hD hmg hg args vals as hpre hlay hrd hwl hlo
  have KX := kIn_of Y
  refine Ground.open G ?_
  intro T B D TE TW
  wrow_args hpre hlay hrd hwl hlo
  rename List Int => ns
  rename List Value => ws
  rename Heap.IsList _ _ _ => hIL
  rename IntsAre _ _ => hIA
  have T0 : Top Mine.hd.view_39 [] (ExcName.means s₀.heap) mg mb s₁.heap := T
  have hT : TabsAt [((27 : Addr), (23 : Addr))] s₁.heap := List.forall_mem_cons.mpr ⟨tab_of (x := Str.ofString "_platform") (c := 27) (P := 23) T0 KX rfl (by kernel_rfl), fun _ h => nomatch h⟩
  have good : ∀ (s' : Shared), (∀ b o, (ghostOf s₁.heap [(27, 23)]).get? b = some o → s'.heap.get? b = some o) → GrownAt 23 s'.heap → s'.os = s₁.os → AllBare s'.gens → GoodWG PySem.Challenge.rw_mj0138_01.row.claim (classAt s₀.heap) (ExcName.means s₀.heap) [ofPy (PyData.list (List.map PyData.int ns))] s₁ (.ok (.ret (.bool true))) s' := by
    intro s' hk hgr hos hgg
    refine ⟨.inl ⟨.bool true, .bool true, [], rfl, fun cls => ?_, .bool true, ?_, fun _ => ⟨List.nodup_nil, fun _ h => nomatch h⟩⟩, ⟨fun b o e => ?_, fun b o e => ?_⟩, hos, hgg⟩
    · rfl
    · exact postW_of rfl (w_eq_bool (k := true) (l := true) (w_res rfl) w_lit) rfl
    · by_cases hb : b = 23
      · subst hb
        have h2 := hT _ (.head _)
        have e2 : s₁.heap.get? 23 = some (tabObj #[]) := h2.2
        rw [e] at e2
        obtain rfl := Option.some.inj e2
        obtain ⟨ps, hP⟩ := hgr
        exact .inr (.inl ⟨(h2.1.tab h2.2).isCodeTable, rfl, #[], ps, rfl, by rw [Array.empty_append]; exact hP⟩)
      · exact .inl (hk b o (ghost_ne e (by simpa using hb)))
    · by_cases hb : b = 23
      · subst hb
        obtain ⟨ps, hP⟩ := hgr
        exact ⟨_, hP⟩
      · exact ⟨o, hk b o (ghost_ne e (by simpa using hb))⟩
  refine ⟨?_, good s₁ (fun b o e => of_hideAll _ e) ⟨#[], (hT _ (.head _)).2⟩ rfl (.of_eq hg)⟩
  have T' : Top topProg LO (ExcName.means s₀.heap) mg mb (ghostOf s₁.heap [(27, 23)]) := top_lo lo_sub (ghost_top hT T0)
  have KX' : (Mine.hd.heap_39 w.params).In (ghostOf s₁.heap [(27, 23)]) := ghost_K hT KX (by kernel_rfl)
  have hbase : G2 w (ExcName.means s₀.heap) mg mb callerA (ghostOf s₁.heap [(27, 23)]) [] (ghostOf s₁.heap [(27, 23)]) := ⟨below_caller _, KX', T', KX', T', ktsDicts_nil⟩
  obtain rfl : dV = .none := by
    rcases hD.pos with ⟨_, h⟩ | ⟨h, _⟩
    · exact h
    · exact absurd rfl h
  obtain rfl : kV = .none := by
    rcases hD.kw with ⟨_, h⟩ | ⟨h, _⟩
    · exact h
    · exact absurd rfl h
  refine wpC_call ?_
  refine' codeC_call_def ?hroom ho hda T.nolimit hcd ?hbody ?hb ?hcell ?hloc ?_ ?hco ?hgen ?hk
  case hroom => decide
  case hbody => exact rfl
  case hb => exact BindsTo.of_eq rfl
  case hcell => show ∀ x ∈ ([(Str.ofString "script", NameKind.local), (Str.ofString "x", NameKind.local), (Str.ofString "_law_machine", NameKind.globalImplicit)] : List (Str × NameKind)), x.2 ≠ .cell; decide
  case hloc => exact locs rfl
  case hco => exact rfl
  case hgen => exact rfl
  case hk => exact rfl
  intro h₁ hns hk₁
  clear hda hcd hD hmg ho
  have F0 : Fr s₁.heap s₁.heap.objs.size h₁ _ := ⟨hns, hk₁, Nat.le_refl _⟩
  have F' := ghost_fr hT F0
  have N' : News (ghostOf s₁.heap [(27, 23)]) s₁.heap.objs.size h₁ [(23, tabObj #[])] := ghost_news hT F0 News.nil
  have hIL' : (ghostOf s₁.heap [(27, 23)]).IsList _ _ := ghost_list hT hIL
  have h23 : (23 : Addr) < s₁.heap.objs.size := Heap.lt_size (hT _ (.head _)).2
  clear hns hk₁ F0 hIL T T0 KX G Y B D TE TW
  generalize hL' : s₁.heap.objs.size = L' at F' N' h23 ⊢
  generalize ghostOf s₁.heap [(27, 23)] = gg at *
  dsimp only at F' ⊢
  change wpC _ (A1 _ _ _ _ _) (execs _ (envOf _ _ _ _ _)) _ _ _
  refine wpC_execs_first ?_
  refine wpC_For ?_
  (repeat' (first | (k_unfold; (try dsimp only)) | ((fail_if_success (with_reducible show wpAny _ _ (pyIter _) _ _ _)); first | walk1 | (dsimp only; walk1)) | fail "no step"))
  rename Fr _ _ _ _ => F1
  rename News _ _ _ _ => N1
  rename IntsAre _ (_ ++ _) => hI9
  have hlenI := hI9.length
  rename List Value => us9
  rename Addr => D9
  rename _ ∧ _ => l9
  have h23' : @LT.lt Nat _ 23 D9 := l9.2.2
  refine wpAny_pyIter_list (News.isList N1 (.head _)) ?_
  have hsz9 : D9 < _ := Heap.lt_size (N1 _ (.head _)).1
  refine law_loop (g := gg) (s₁ := s₁) (D := D9) w (H w) hbase hI9 ?_ ?_
  · refine ⟨_, 0, ({ cls := .type "list_iterator", data := .fields #[.ref D9, .int 0 0] } : Obj), #[], rfl, .of_eq hg, .inl rfl, rfl, rfl, F1.push _, ?_, Nat.ne_of_gt hsz9, Nat.lt_trans h23' hsz9, h23', Nat.zero_le _, rfl⟩
    intro q hq
    have z := News.push F1 N1 { cls := .type "list_iterator", data := .fields #[.ref D9, .int 0 0] }
    rcases List.mem_cons.mp hq with rfl | hq
    · exact z _ (.tail _ (.tail _ (.tail _ (.tail _ (.head _)))))
    rcases List.mem_cons.mp hq with rfl | hq
    · exact z _ (.head _)
    · rw [List.mem_singleton.mp hq]
      exact z _ (.tail _ (.head _))
  · intro s5 m5 ps5 F N hG5 hos5
    refine wpAny_execs_cons ?_
    clear F1 N1
    (repeat' (first | (k_unfold; (try dsimp only)) | walk1 | (dsimp only; walk1) | fail "no step"))
    exact good _ F.keep ⟨ps5, (N _ (.head _)).1⟩ hos5 hG5
end
section
open PySem PySem.W PyProof.Rows PySem.Calls PySem.Spec
noncomputable abbrev pSc : Scope := { kind := .function, names := [(Str.ofString "args", .local), (Str.ofString "platform", .local), (Str.ofString "cleaned", .local), (Str.ofString "filter", .globalImplicit), (Str.ofString "len", .globalImplicit)], isGenerator := false, isCoroutine := false }
noncomputable abbrev pEnv (L : Addr) : Env := envOf (Str.ofString "_platform") pSc L 28 (.ref 27)
noncomputable abbrev pA (cn : Str) (cs : Scope) (L0 a : Addr) (ccd : Value) (cl : List (Str × Addr)) (outer : List Env) (L : Addr) : Around := (A2 cn cs L0 a ccd cl outer).deeper (pEnv L)
noncomputable abbrev dd : Str := Str.ofString "--"
noncomputable abbrev d1 : Str := Str.ofString "-"
/-- '--' to '-' till nothing moves -/
noncomputable def colF : Nat → Str → Str
  | 0, x => x
  | n + 1, x => if (Txt.replace x dd d1 == x) = true then x else colF n (Txt.replace x dd d1)
noncomputable abbrev body1 : List Stmt := [.Assign [.Name (Str.ofString "cleaned") ⟨35, 8, 35, 15⟩] (.Call (.Attribute (.Name (Str.ofString "platform") ⟨35, 18, 35, 26⟩) (Str.ofString "replace") ⟨35, 18, 35, 34⟩) [.Constant (.str (Str.ofString "--")) 0 ⟨35, 35, 35, 39⟩, .Constant (.str (Str.ofString "-")) 0 ⟨35, 41, 35, 44⟩] [] ⟨35, 18, 35, 45⟩) ⟨35, 8, 35, 45⟩,
  .If (.Compare (.Name (Str.ofString "cleaned") ⟨36, 11, 36, 18⟩) [.Eq] [.Name (Str.ofString "platform") ⟨36, 22, 36, 30⟩] ⟨36, 11, 36, 30⟩) [.Break ⟨37, 12, 37, 17⟩] [] ⟨36, 8, 37, 17⟩,
  .Assign [.Name (Str.ofString "platform") ⟨38, 8, 38, 16⟩] (.Name (Str.ofString "cleaned") ⟨38, 19, 38, 26⟩) ⟨38, 8, 38, 26⟩]
noncomputable abbrev test1 : Expr := .Constant (.bool true) 0 ⟨34, 10, 34, 14⟩
section
variable {w : World} {E : Value → Shared → Prop} {g : Heap} {L D : Addr} {news : List (Addr × Obj)} {cn : Str} {cs : Scope} {L0 a : Addr} {ccd : Value} {cl : List (Str × Addr)} {outer : List Env} {Q : Flow → Shared → Prop}
noncomputable abbrev pmF (x : Str) (t : Tok) (c : Option Value) (r : Str → Option Value) : Str → Option Value := fun y => if y = Str.ofString "platform" then some (.str x t) else if y = Str.ofString "cleaned" then c else r y
theorem pm_turn {x x' : Str} {t t' : Tok} {c c' : Option Value} {r : Str → Option Value} : (fun y => if y = Str.ofString "platform" then some (Value.str x' t') else if y = Str.ofString "cleaned" then c' else pmF x t c r y) = pmF x' t' c' r := by
  funext y
  unfold pmF
  by_cases h1 : y = Str.ofString "platform" <;> by_cases h2 : y = Str.ofString "cleaned" <;> simp [h1, h2]
theorem pm_p {x x' : Str} {t t' : Tok} {c : Option Value} {r : Str → Option Value} : (fun y => if y = Str.ofString "platform" then some (Value.str x' t') else pmF x t c r y) = pmF x' t' c r := by
  funext y
  unfold pmF
  by_cases h1 : y = Str.ofString "platform"
  · rw [if_pos h1, if_pos h1]
  · rw [if_neg h1, if_neg h1, if_neg h1]
theorem pm_half {x : Str} {t : Tok} {c c' : Option Value} {r : Str → Option Value} : (fun y => if y = Str.ofString "cleaned" then c' else pmF x t c r y) = pmF x t c' r := by
  funext y
  unfold pmF
  by_cases h1 : y = Str.ofString "platform"
  · subst h1
    have : ¬ (Str.ofString "platform" = Str.ofString "cleaned") := by decide
    simp [this]
  · by_cases h2 : y = Str.ofString "cleaned"
    · rw [if_pos h2, if_neg h1, if_pos h2]
    · rw [if_neg h2, if_neg h1, if_neg h1, if_neg h2, if_neg h2]
set_option maxRecDepth 100000 in
set_option maxHeartbeats 2000000 in
theorem pl_loop1 (hE : PassesOwn (model PP w) (pA cn cs L0 a ccd cl outer L) (pEnv L) E) {r : Str → Option Value} (hdec : ∀ x : Str, (Txt.replace x dd d1 == x) = true ∨ (Txt.replace x dd d1).length < x.length) : ∀ (n : Nat) (x : Str) (t : Tok) (c : Option Value) (s : Shared), x.length < n → x.length ≤ 1000 → 1 ≤ s.toks →
    Fr g L s.heap (pmF x t c r) → News g L s.heap news →
    (∀ h tk t' c', Fr g L h (pmF (colF n x) t' c' r) → News g L h news → 1 ≤ tk → Q .next { s with heap := h, toks := tk }) →
    WhlRest PP w (pA cn cs L0 a ccd cl outer L) E (pEnv L) test1 body1 [] Q n s := by
  (w_top off; k_with_none; (have hz9 : PySem.Challenge.rw_mj0138_01 = PySem.Challenge.rw_mj0138_01 ∧ hd.heap_39 = hd.heap_39 := by (k_fill; exact ⟨rfl, rfl⟩)); clear hz9)
  intro n
  induction n with
  | zero => intro x t m s hn; exact absurd hn (Nat.not_lt_zero _)
  | succ n ih =>
    intro x t c s hn hx ht F N hQ
    refine whl_turn hE ?_
    (repeat' (first | (k_unfold; (try dsimp only)) | ((fail_if_success (with_reducible show wpAny _ _ (PySem.call (Value.builtin "str.join") _) _ _ _)); first | walk1 | (dsimp only; walk1)) | fail "no step"))
    refine wpAny_with_toks (n := 1) (show 1 ≤ s.toks + 1 + 1 by omega) (SC.replaceW (Nat.ne_of_gt ht) (Nat.succ_ne_zero _) (Nat.ne_of_lt (Nat.lt_succ_self _)) (by decide) (Nat.le_trans hx (by decide)) (by decide) fun t2 k2 hk2 => ?_)
    dsimp only at hk2
    refine wpAny_with_toks (n := 1) hk2 ?_
    (repeat' (first | (k_unfold; (try dsimp only)) | ((fail_if_success (with_reducible show WhlRest _ _ _ _ _ _ _ _ _ _ _)); first | walk1 | (dsimp only; walk1)) | fail "no step"))
    · rename _ = true => hb
      rename Fr _ _ _ (fun y => _) => F1
      rename News _ _ _ _ => N1
      have e : colF (n + 1) x = x := if_pos hb
      rw [pm_half] at F1
      exact hQ _ _ t _ (by rw [e]; exact F1) N1 (Nat.le_succ_of_le hk2)
    · rename _ = false => hb
      rename Fr _ _ _ (fun y => ite (_ = Str.ofString "platform") _ _) => F1
      rename News _ _ _ _ => N1
      have e : colF (n + 1) x = colF n (Txt.replace x dd d1) := if_neg (by rw [hb]; exact Bool.false_ne_true)
      rw [pm_turn] at F1
      have hl : (Txt.replace x dd d1).length < x.length := by
        rcases hdec x with h | h
        · rw [hb] at h; cases h
        · exact h
      refine ih (Txt.replace x dd d1) t2 _ _ (by omega) (by omega) (Nat.le_add_left ..) F1 N1 fun h tk t' c' F9 N9 k9 => ?_
      exact hQ h tk t' c' (by rw [e]; exact F9) N9 k9
/-- hyphens at the end go -/
noncomputable def trF : Nat → Str → Str
  | 0, x => x
  | n + 1, x => if (x.length != 0 && (Txt.item x (-1) == d1)) = true then trF n (Txt.slice x none (some (-1))) else x
noncomputable abbrev body2 : List Stmt := [.Assign [.Name (Str.ofString "platform") ⟨40, 8, 40, 16⟩] (.Subscript (.Name (Str.ofString "platform") ⟨40, 19, 40, 27⟩) (.Slice none (some (.UnaryOp .USub (.Constant (.int 1) 0 ⟨40, 30, 40, 31⟩) ⟨40, 29, 40, 31⟩)) none ⟨40, 28, 40, 31⟩) ⟨40, 19, 40, 32⟩) ⟨40, 8, 40, 32⟩]
noncomputable abbrev test2 : Expr := .BoolOp .And [.Name (Str.ofString "platform") ⟨39, 10, 39, 18⟩, .Compare (.Subscript (.Name (Str.ofString "platform") ⟨39, 23, 39, 31⟩) (.UnaryOp .USub (.Constant (.int 1) 0 ⟨39, 33, 39, 34⟩) ⟨39, 32, 39, 34⟩) ⟨39, 23, 39, 35⟩) [.Eq] [.Constant (.str (Str.ofString "-")) 0 ⟨39, 39, 39, 42⟩] ⟨39, 23, 39, 42⟩] ⟨39, 10, 39, 42⟩
set_option maxRecDepth 100000 in
set_option maxHeartbeats 2000000 in
theorem pl_loop2 (hE : PassesOwn (model PP w) (pA cn cs L0 a ccd cl outer L) (pEnv L) E) {r : Str → Option Value} (hdec : ∀ x : Str, x.length ≠ 0 → (Txt.slice x none (some (-1))).length < x.length) : ∀ (n : Nat) (x : Str) (t : Tok) (c : Option Value) (s : Shared), x.length < n → x.length ≤ 1000 →
    Fr g L s.heap (pmF x t c r) → News g L s.heap news →
    (∀ h tk t' c', Fr g L h (pmF (trF n x) t' c' r) → News g L h news → Q .next { s with heap := h, toks := tk }) →
    WhlRest PP w (pA cn cs L0 a ccd cl outer L) E (pEnv L) test2 body2 [] Q n s := by
  (w_top off; k_with_none; (have hz9 : PySem.Challenge.rw_mj0138_01 = PySem.Challenge.rw_mj0138_01 ∧ hd.heap_39 = hd.heap_39 := by (k_fill; exact ⟨rfl, rfl⟩)); clear hz9)
  intro n
  induction n with
  | zero => intro x t m s hn; exact absurd hn (Nat.not_lt_zero _)
  | succ n ih =>
    intro x t c s hn hx F N hQ
    refine whl_turn hE ?_
    (repeat' (first | (k_unfold; (try dsimp only)) | ((fail_if_success (with_reducible show WhlRest _ _ _ _ _ _ _ _ _ _ _)); first | walk1 | (dsimp only; walk1)) | fail "no step"))
    · rename _ = true => hb
      rename Fr _ _ _ (fun y => ite (_ = Str.ofString "platform") _ _) => F1
      rename News _ _ _ _ => N1
      rename _ ≠ (0 : Int) => hz
      have hz' : x.length ≠ 0 := fun h => hz (by rw [h]; rfl)
      have e : trF (n + 1) x = trF n (Txt.slice x none (some (-1))) := if_pos (by simp [hz', hb])
      rw [pm_p] at F1
      have hl := hdec x hz'
      refine ih _ _ _ _ (by omega) (by omega) F1 N1 fun h tk t' c' F9 N9 => ?_
      exact hQ h tk t' c' (by rw [e]; exact F9) N9
    · rename _ = false => hb
      have e : trF (n + 1) x = x := if_neg (by rw [hb, Bool.and_false]; exact Bool.false_ne_true)
      exact hQ _ _ t c (by rw [e]; k_asm) (by k_asm)
    · have e : trF (n + 1) x = x := if_neg (by
        have hz' : x.length = 0 := by omega
        rw [hz']; exact Bool.false_ne_true)
      exact hQ _ _ t c (by rw [e]; k_asm) (by k_asm)
end
end
section
open PySem PySem.W PyProof.Rows PySem.Calls PySem.Spec
/-- the platform's claim -/
noncomputable abbrev CtP (w : World) (vs : List Value) (x : Str) : Prop :=
  ∀ (mean : ExcName → Option Value) (mg mb : Str → Option Value) (cn : Str) (cs : Scope) (a : Addr) (ccd : Value) (cl : List (Str × Addr)) (outer : List Env) (A₀ : Around) (base h₀ : Heap) (L : Addr) (m : Str → Option Value) (pre post : List (Addr × Obj)) (ps : Array Value) (s : Shared) (Q E : Value → Shared → Prop),
    Below A₀ base outer h₀ → Fr h₀ L s.heap m → (hd.heap_39 w.params).In h₀ → News h₀ L s.heap (pre ++ (23, tabObj ps) :: post) → Top topProg LO mean mg mb h₀ → cs.kind = .function →
    (∀ p ∈ pre, p.1 ≠ 23) → (∀ p ∈ post, p.1 ≠ 23) → TabOk PO ps → AllBare s.gens →
    (∀ t s' ps', Fr h₀ L s'.heap m → News h₀ L s'.heap (pre ++ (23, tabObj ps') :: post) → TabOk PO ps' → AllBare s'.gens → s'.os = s.os → Q (.str x t) s') →
    wpAny (model PP w) (A2 cn cs L a ccd cl outer) (call (.ref 28) vs) Q E s
theorem gj_frame {g h h' : Heap} {L P : Addr} {m : Str → Option Value} {pre post : List (Addr × Obj)} {o o' : Obj} (F : Fr g L h m) (N : News g L h (pre ++ (P, o) :: post)) (h1 : ∀ p ∈ pre, p.1 ≠ P) (h2 : ∀ p ∈ post, p.1 ≠ P)
    (hk : ∀ b o, b ≠ P → h.get? b = some o → h'.get? b = some o) (hP : h'.get? P = some o') : Fr g L h' m ∧ News g L h' (pre ++ (P, o') :: post) := by
  have hm := N (P, o) (List.mem_append_right _ (.head _))
  refine ⟨⟨F.ns.at' fun o e => hk _ o (Ne.symm hm.2.1) e, fun b o e => hk b o (fun q => ?_) (F.keep b o e), F.above⟩, fun q hq => ?_⟩
  · subst q; rw [hm.2.2] at e; cases e
  · rcases List.mem_append.mp hq with hq | hq
    · have n := N q (List.mem_append_left _ hq)
      exact ⟨hk _ _ (h1 q hq) n.1, n.2⟩
    · rcases List.mem_cons.mp hq with rfl | hq
      · exact ⟨hP, hm.2⟩
      · have n := N q (List.mem_append_right _ (.tail _ hq))
        exact ⟨hk _ _ (h2 q hq) n.1, n.2⟩
theorem code27 (w : World) {g : Heap} (X : (hd.heap_39 w.params).In g) : CodeHd g 27 23 := by
  obtain ⟨o, ho⟩ : ∃ o, (hd.heap_39 w.params).lookup 27 = some o := ⟨_, rfl⟩
  have h2 := X 27 o ho
  obtain rfl := (Option.some.inj ho)
  exact ⟨_, _, _, _, _, _, _, _, _, h2, rfl, rfl, rfl, rfl, rfl, rfl, rfl, rfl, by decide⟩
theorem rep_call {w : World} {A : Around} {E : Value → Shared → Prop} {s : Shared} {x y z : Str} {t : Tok} {k : Nat} {Q : Value → Shared → Prop} (hk : 1 ≤ k) (hs : 1 ≤ s.toks) (hx : x.length ≤ 400) (hyz : (y == z) = false) (hz : z.length ≤ 14)
    (hq : ∀ t' k', 1 ≤ k' → Q (.str (Txt.replace x y z) t') { s with toks := k' }) : wpAny (model PP w) A (call (.builtin "str.replace") [.str x t, .str y k, .str z (k + 1)]) Q E s :=
  wpAny_with_toks (n := 1) hs (SC.replaceW (Nat.ne_of_gt hk) (Nat.succ_ne_zero _) (Nat.ne_of_lt (Nat.lt_succ_self _)) hyz (Nat.le_trans hx (by decide)) hz fun t' k' h => hq t' k' h)
noncomputable def r8 (x : Str) : Str := Txt.replace (Txt.replace (Txt.replace (Txt.replace (Txt.replace (Txt.replace (Txt.replace (Txt.replace (Txt.replace x (Str.ofString " ") (Str.ofString "_")) (Str.ofString "/") (Str.ofString "-")) (Str.ofString "\\") (Str.ofString "-")) (Str.ofString ":") (Str.ofString "-")) (Str.ofString ";") (Str.ofString "-")) (Str.ofString "\"") (Str.ofString "-")) (Str.ofString "(") (Str.ofString "-")) (Str.ofString ")") (Str.ofString "-")) (Str.ofString "unknown") (Str.ofString "")
noncomputable def platJ (x y z : Str) : Str := Txt.join (Str.ofString "-") ((([x, y, z] : List Str).filter fun a => a.length != 0).map Txt.strip)
noncomputable def platS (x y z : Str) : Str := trF 1000 (colF 1000 (r8 (platJ x y z)))
theorem plat_list (x y z : Str) (t1 t2 t3 : Tok) : ((([(x, t1), (y, t2), (z, t3)] : List (Str × Tok)).filter nz).map fun q => Txt.strip q.1) = (([x, y, z] : List Str).filter fun a => a.length != 0).map Txt.strip := by
  simp only [List.filter_cons, List.filter_nil, nz]
  by_cases h1 : (x.length != 0) = true <;> by_cases h2 : (y.length != 0) = true <;> by_cases h3 : (z.length != 0) = true <;> simp only [h1, h2, h3, if_true] <;> rfl
theorem strip_le (x : Str) : (Txt.strip x).length ≤ x.length := len_strip x
theorem plat_parts {x y z : Str} (hx : x.length ≤ 100) (hy : y.length ≤ 100) (hz : z.length ≤ 100) : ∀ a ∈ (([x, y, z] : List Str).filter fun a => a.length != 0).map Txt.strip, a.length ≤ 100 := by
  intro a ha
  obtain ⟨b, hb, rfl⟩ := List.mem_map.mp ha
  have h1 := strip_le b
  have h2 := (List.mem_filter.mp hb).1
  simp only [List.mem_cons, List.not_mem_nil, or_false] at h2
  rcases h2 with rfl | rfl | rfl <;> omega
theorem plat_count (x y z : Str) : ((([x, y, z] : List Str).filter fun a => a.length != 0).map Txt.strip).length ≤ 3 := by
  rw [List.length_map]
  exact List.length_filter_le _ _
theorem platJ_len {x y z : Str} (hx : x.length ≤ 100) (hy : y.length ≤ 100) (hz : z.length ≤ 100) : (platJ x y z).length ≤ 400 := by
  unfold platJ Txt.join
  rw [StrLaws.glued_eq_join]
  have h1 := StrLaws.join_length_le (Str.ofString "-") ((([x, y, z] : List Str).filter fun a => a.length != 0).map Txt.strip)
  have h2 := sum_le _ (plat_parts hx hy hz)
  have h3 := plat_count x y z
  have h4 : (Str.ofString "-").length = 1 := rfl
  rw [h4] at h1
  have h5 := Nat.mul_le_mul_right 100 h3
  omega
noncomputable abbrev gSc : Scope := { kind := .function, names := [(Str.ofString ".0", .local), (Str.ofString "x", .local)], isGenerator := true, isCoroutine := false }
set_option maxRecDepth 100000 in
theorem el_strip {w : World} {A : Around} {E : Value → Shared → Prop} {s : Shared} {C L : Addr} {code : Value} {m : Str → Option Value} {y : Str} {t : Tok}
    (hn : s.heap.Ns C m) (hv : m (Str.ofString "x") = some (.str y t)) (hy : y.length ≤ 1000) :
    wpAny (model PP w) A (eval (.Call (.Attribute (.Name (Str.ofString "x") ⟨24, 25, 24, 26⟩) (Str.ofString "strip") ⟨24, 25, 24, 32⟩) [] [] ⟨24, 25, 24, 34⟩) (genEnv gSc [] C code builtinsNs (envOf (Str.ofString "_platform") pSc L 28 (.ref 27)))) (fun v s₃ => (∃ u, v = .str (Txt.strip y) u) ∧ Keeps s s₃) E s := by
  refine MethodCall_ ?_
  refine wpAny_Name (wpAny_loadName_local rfl rfl hn hv ?_)
  refine GM.strip ?_
  refine callWith_method0 ?_
  refine SC.strip (fun t' k => ⟨⟨t', rfl⟩, s.heap, k, rfl, fun _ _ e => e⟩) (Nat.le_trans hy (by decide))
theorem colF_len : ∀ (n : Nat) (x : Str), (colF n x).length ≤ x.length
  | 0, x => Nat.le_refl _
  | n + 1, x => by
    unfold colF
    split
    · exact Nat.le_refl _
    · exact Nat.le_trans (colF_len n _) (replace_len (by decide) (by decide))
set_option maxRecDepth 100000 in
set_option maxHeartbeats 2000000 in
theorem ct_platform (w : World) (x y z : Str) (t1 t2 t3 : Tok) (hx : x.length ≤ 100) (hy : y.length ≤ 100) (hz : z.length ≤ 100) :
    CtP w [Value.str x t1, Value.str y t2, Value.str z t3] (platS x y z) := by
  (w_top off; k_with_none; (have hz9 : PySem.Challenge.rw_mj0138_01 = PySem.Challenge.rw_mj0138_01 ∧ hd.heap_39 = hd.heap_39 := by (k_fill; exact ⟨rfl, rfl⟩)); clear hz9)
  intro mean mg mb cn cs a ccd cl outer A₀ base h₀ L m pre post ps s Q E kB kF0 kX kN0 kT kK hpre hpost hps hG hret
  refine wpAny_call ?_
  have hmem : ((23 : Addr), tabObj ps) ∈ pre ++ (23, tabObj ps) :: post := List.mem_append_right _ (.head _)
  refine' kp_rest (vs := [Value.str x t1, Value.str y t2, Value.str z t3]) (binds := fun D => [(Str.ofString "args", Value.ref D)]) ?k1 ?k2 ?k3 ?k4 ?k5 ?kA ?kF ?kK ?k6 ?k7 ?k8 ?kV ?kP ?kG ?kB ?_ ?c2 ?c3 ?c4 ?c5
  (case kA => exact rfl); (case kF => exact rfl); (case kK => assumption); (case k1 => k_asm); (case k2 => k_asm); (case k3 => k_asm); (case k4 => k_asm); (case k5 => k_asm); (case k6 => k_is); (case k7 => k_is); (case k8 => k_room); (case kV => exact rfl); (case kP => exact rfl); (case kG => exact fun _ => rfl); (case kB => exact fun _ => locs rfl); (case c5 => decide); (case c2 => exact rfl); (case c3 => exact rfl); (case c4 => exact rfl)
  k_whole; intro D' g' L' h' l1 FG' F' N' B' X' T'; (try dsimp only); (try k_lift B'); (try k_fold)
  (repeat' (first | (k_unfold; (try dsimp only)) | ((fail_if_success (with_reducible show wpAny _ _ (PySem.call (Value.builtin "str.join") _) _ _ _)); first | walk1 | (dsimp only; walk1)) | fail "no step"))
  refine' gj_exp (tx := Txt.strip) (l := [(x, t1), (y, t2), (z, t3)]) (D := D') (c := 27) (P := 23) (ps := ps) (cl := []) F' N' T' (code27 w X') ?g1 hps ?g2 ?g3 hG rfl rfl rfl rfl ?g4 ?g5 ?g6 ?g7 rfl ?g8 ?hev ?hq ?hQ ?hs
  case g1 => exact .tail _ hmem
  case g2 => exact ⟨_, (N' _ (.head _)).1, rfl, _, rfl⟩
  case g3 =>
    intro q hq
    rcases List.mem_cons.mp hq with rfl | hq
    · exact Nat.le_trans hx (by decide)
    rcases List.mem_cons.mp hq with rfl | hq
    · exact Nat.le_trans hy (by decide)
    rw [List.mem_singleton.mp hq]
    exact Nat.le_trans hz (by decide)
  case hs => exact fun _ => rfl
  case hev =>
    (repeat' (first | (k_unfold; (try dsimp only)) | ((fail_if_success (with_reducible show wpAny _ _ (PySem.call (Value.builtin "str.join") _) _ _ _)); first | walk1 | (dsimp only; walk1)) | fail "no step"))
    refine fi_call (items := vals [(x, t1), (y, t2), (z, t3)]) ⟨_, (N' _ (.head _)).1, rfl, _, rfl⟩ fun h1 f1 i1 z1 k1 => ?_
    exact ⟨h1, _, _, _, rfl, k1, rfl, f1, i1, Nat.le_refl _, Nat.succ_ne_self _, Nat.le_succ _⟩
  case hq =>
    intro A' E' y9 t9 C9 code9 s9 m9 hA9 hn9 hm9 hl9
    exact el_strip hn9 hm9 hl9
  case hQ =>
    intro a5 s5 ps5 hk5 hP5 hps5 hG5 hos5 hsz5 X5
    (repeat' (first | (k_unfold; (try dsimp only)) | ((fail_if_success (with_reducible show wpAny _ _ (PySem.call (Value.builtin "str.join") _) _ _ _)); first | walk1 | (dsimp only; walk1)) | fail "no step"))
    have hlt : ∀ (n : Nat) (b : Addr) (o : Obj), h'.get? b = some o → b ≤ h'.objs.size - 1 := fun _ b o e => by
      have : @LT.lt Nat _ b h'.objs.size := Heap.lt_size e
      exact Nat.le_sub_one_of_lt this
    have h23 : h'.get? 23 = some (tabObj ps) := (N' _ (.tail _ hmem)).1
    refine gj_join hG5 X5 ?j1 ?j2 ?_
    case j1 =>
      rw [plat_list]
      have := StrLaws.joinFits (sep := Str.ofString "-") (B := 100) (plat_parts hx hy hz) (by have h3 := plat_count x y z; have h4 : (Str.ofString "-").length = 1 := rfl; rw [h4]; omega)
      show (!_) = true
      rw [this]; rfl
    case j2 =>
      exact Nat.le_trans (List.length_filter_le _ _) (show 3 ≤ sizeLine by decide)
    intro s6 t6 hk6 hG6 hos6
    have hP6 : s6.heap.get? 23 = some (tabObj ps5) := hk6 _ _ (hlt 0 _ _ h23) hP5
    have hk' : ∀ b o, b ≠ 23 → h'.get? b = some o → s6.heap.get? b = some o := fun b o hb e => hk6 _ _ (hlt 0 _ _ e) (hk5 b o hb e)
    have N0 : News g' L' h' (((D', tupO #[.str x t1, .str y t2, .str z t3] 0) :: pre) ++ (23, tabObj ps) :: post) := N'
    have hD23 : ∀ p ∈ (D', tupO #[.str x t1, .str y t2, .str z t3] 0) :: pre, p.1 ≠ 23 := by
      intro p hp
      rcases List.mem_cons.mp hp with rfl | hp
      · exact Nat.ne_of_gt (l1 _ hmem)
      · exact hpre p hp
    obtain ⟨F6, N6⟩ := gj_frame F' N0 hD23 hpost hk' hP6
    clear F' N' N0 hk5 hk6 hk' X5 hlt h23
    have hos : s6.os = s.os := hos6.trans hos5
    clear hos6 hos5 hsz5
    rw [plat_list]
    have hj : (platJ x y z).length ≤ 400 := platJ_len hx hy hz
    have hres : platS x y z = trF 1000 (colF 1000 (r8 (platJ x y z))) := rfl
    change wpAny _ _ (storeName _ _ (Value.str (platJ x y z) t6)) _ _ _
    generalize platJ x y z = j0 at hj hres ⊢
    refine stN F6 N6 fun h7 F7 N7 => ?_
    clear F6 N6
    have F8 : Fr g' L' h7 (pmF j0 t6 none (fun y => List.lookup y [(Str.ofString "args", Value.ref D')].reverse)) := by
      refine Eq.mp ?_ F7
      congr 1
      funext y
      unfold pmF
      by_cases h1 : y = Str.ofString "platform"
      · rw [if_pos h1, if_pos h1]
      · rw [if_neg h1, if_neg h1]
        by_cases h2 : y = Str.ofString "cleaned"
        · subst h2; rfl
        · rw [if_neg h2]
    clear F7
    generalize (fun y => List.lookup y [(Str.ofString "args", Value.ref D')].reverse) = rr at F8
    generalize hnw : (D', tupO #[.str x t1, .str y t2, .str z t3] 0) :: pre ++ (23, tabObj ps5) :: post = nw at N7
    have hk7 : 1 ≤ s6.toks + 1 := Nat.le_add_left ..
    unfold r8 at hres
    refine wpAny_execs_cons ?_
    (repeat' (first | (k_unfold; (try dsimp only)) | ((fail_if_success (with_reducible show wpAny _ _ (PySem.call (Value.builtin "str.replace") _) _ _ _)); first | walk1 | (dsimp only; walk1)) | fail "no step"))
    refine rep_call (Nat.le_add_left ..) (Nat.le_add_left ..) hj (by decide) (by decide) fun tt1 kk1 hkk1 => ?_
    have hl1 : (Txt.replace j0 (Str.ofString " ") (Str.ofString "_")).length ≤ 400 := Nat.le_trans (replace_len (by decide) (by decide)) hj
    generalize Txt.replace j0 (Str.ofString " ") (Str.ofString "_") = x1 at hl1 hres ⊢
    refine stN F8 N7 fun hh1 FF1 NN1 => ?_
    rw [pm_p] at FF1
    clear F8 N7
    refine wpAny_execs_cons ?_
    (repeat' (first | (k_unfold; (try dsimp only)) | ((fail_if_success (with_reducible show wpAny _ _ (PySem.call (Value.builtin "str.replace") _) _ _ _)); first | walk1 | (dsimp only; walk1)) | fail "no step"))
    refine rep_call (Nat.le_add_left ..) (Nat.le_add_left ..) hl1 (by decide) (by decide) fun tt2 kk2 hkk2 => ?_
    have hl2 : (Txt.replace x1 (Str.ofString "/") (Str.ofString "-")).length ≤ 400 := Nat.le_trans (replace_len (by decide) (by decide)) hl1
    generalize Txt.replace x1 (Str.ofString "/") (Str.ofString "-") = x2 at hl2 hres ⊢
    refine stN FF1 NN1 fun hh2 FF2 NN2 => ?_
    rw [pm_p] at FF2
    clear FF1 NN1
    refine wpAny_execs_cons ?_
    (repeat' (first | (k_unfold; (try dsimp only)) | ((fail_if_success (with_reducible show wpAny _ _ (PySem.call (Value.builtin "str.replace") _) _ _ _)); first | walk1 | (dsimp only; walk1)) | fail "no step"))
    refine rep_call (Nat.le_add_left ..) (Nat.le_add_left ..) hl2 (by decide) (by decide) fun tt3 kk3 hkk3 => ?_
    have hl3 : (Txt.replace x2 (Str.ofString "\\") (Str.ofString "-")).length ≤ 400 := Nat.le_trans (replace_len (by decide) (by decide)) hl2
    generalize Txt.replace x2 (Str.ofString "\\") (Str.ofString "-") = x3 at hl3 hres ⊢
    refine stN FF2 NN2 fun hh3 FF3 NN3 => ?_
    rw [pm_p] at FF3
    clear FF2 NN2
    refine wpAny_execs_cons ?_
    (repeat' (first | (k_unfold; (try dsimp only)) | ((fail_if_success (with_reducible show wpAny _ _ (PySem.call (Value.builtin "str.replace") _) _ _ _)); first | walk1 | (dsimp only; walk1)) | fail "no step"))
    refine rep_call (Nat.le_add_left ..) (Nat.le_add_left ..) hl3 (by decide) (by decide) fun tt4 kk4 hkk4 => ?_
    have hl4 : (Txt.replace x3 (Str.ofString ":") (Str.ofString "-")).length ≤ 400 := Nat.le_trans (replace_len (by decide) (by decide)) hl3
    generalize Txt.replace x3 (Str.ofString ":") (Str.ofString "-") = x4 at hl4 hres ⊢
    refine stN FF3 NN3 fun hh4 FF4 NN4 => ?_
    rw [pm_p] at FF4
    clear FF3 NN3
    refine wpAny_execs_cons ?_
    (repeat' (first | (k_unfold; (try dsimp only)) | ((fail_if_success (with_reducible show wpAny _ _ (PySem.call (Value.builtin "str.replace") _) _ _ _)); first | walk1 | (dsimp only; walk1)) | fail "no step"))
    refine rep_call (Nat.le_add_left ..) (Nat.le_add_left ..) hl4 (by decide) (by decide) fun tt5 kk5 hkk5 => ?_
    have hl5 : (Txt.replace x4 (Str.ofString ";") (Str.ofString "-")).length ≤ 400 := Nat.le_trans (replace_len (by decide) (by decide)) hl4
    generalize Txt.replace x4 (Str.ofString ";") (Str.ofString "-") = x5 at hl5 hres ⊢
    refine stN FF4 NN4 fun hh5 FF5 NN5 => ?_
    rw [pm_p] at FF5
    clear FF4 NN4
    refine wpAny_execs_cons ?_
    (repeat' (first | (k_unfold; (try dsimp only)) | ((fail_if_success (with_reducible show wpAny _ _ (PySem.call (Value.builtin "str.replace") _) _ _ _)); first | walk1 | (dsimp only; walk1)) | fail "no step"))
    refine rep_call (Nat.le_add_left ..) (Nat.le_add_left ..) hl5 (by decide) (by decide) fun tt6 kk6 hkk6 => ?_
    have hl6 : (Txt.replace x5 (Str.ofString "\"") (Str.ofString "-")).length ≤ 400 := Nat.le_trans (replace_len (by decide) (by decide)) hl5
    generalize Txt.replace x5 (Str.ofString "\"") (Str.ofString "-") = x6 at hl6 hres ⊢
    refine stN FF5 NN5 fun hh6 FF6 NN6 => ?_
    rw [pm_p] at FF6
    clear FF5 NN5
    refine wpAny_execs_cons ?_
    (repeat' (first | (k_unfold; (try dsimp only)) | ((fail_if_success (with_reducible show wpAny _ _ (PySem.call (Value.builtin "str.replace") _) _ _ _)); first | walk1 | (dsimp only; walk1)) | fail "no step"))
    refine rep_call (Nat.le_add_left ..) (Nat.le_add_left ..) hl6 (by decide) (by decide) fun tt7 kk7 hkk7 => ?_
    have hl7 : (Txt.replace x6 (Str.ofString "(") (Str.ofString "-")).length ≤ 400 := Nat.le_trans (replace_len (by decide) (by decide)) hl6
    generalize Txt.replace x6 (Str.ofString "(") (Str.ofString "-") = x7 at hl7 hres ⊢
    refine stN FF6 NN6 fun hh7 FF7 NN7 => ?_
    rw [pm_p] at FF7
    clear FF6 NN6
    refine wpAny_execs_cons ?_
    (repeat' (first | (k_unfold; (try dsimp only)) | ((fail_if_success (with_reducible show wpAny _ _ (PySem.call (Value.builtin "str.replace") _) _ _ _)); first | walk1 | (dsimp only; walk1)) | fail "no step"))
    refine rep_call (Nat.le_add_left ..) (Nat.le_add_left ..) hl7 (by decide) (by decide) fun tt8 kk8 hkk8 => ?_
    have hl8 : (Txt.replace x7 (Str.ofString ")") (Str.ofString "-")).length ≤ 400 := Nat.le_trans (replace_len (by decide) (by decide)) hl7
    generalize Txt.replace x7 (Str.ofString ")") (Str.ofString "-") = x8 at hl8 hres ⊢
    refine stN FF7 NN7 fun hh8 FF8 NN8 => ?_
    rw [pm_p] at FF8
    clear FF7 NN7
    refine wpAny_execs_cons ?_
    (repeat' (first | (k_unfold; (try dsimp only)) | ((fail_if_success (with_reducible show wpAny _ _ (PySem.call (Value.builtin "str.replace") _) _ _ _)); first | walk1 | (dsimp only; walk1)) | fail "no step"))
    refine rep_call (Nat.le_add_left ..) (Nat.le_add_left ..) hl8 (by decide) (by decide) fun tt9 kk9 hkk9 => ?_
    have hl9 : (Txt.replace x8 (Str.ofString "unknown") (Str.ofString "")).length ≤ 400 := Nat.le_trans (replace_len (by decide) (by decide)) hl8
    generalize Txt.replace x8 (Str.ofString "unknown") (Str.ofString "") = x9 at hl9 hres ⊢
    refine stN FF8 NN8 fun hh9 FF9 NN9 => ?_
    rw [pm_p] at FF9
    clear FF8 NN8
    refine wpAny_execs_cons ?_
    refine whl_start 1000 ?_
    refine pl_loop1 (by passes_own) (fun x => replace_dec (by decide)) 1000 x9 _ none _ (Nat.lt_of_le_of_lt hl9 (by decide)) (Nat.le_trans hl9 (by decide)) (Nat.le_add_left ..) FF9 NN9 fun h10 k10 t10 c10 F10 N10 hk10 => ?_
    have hl10 : (colF 1000 x9).length ≤ 400 := Nat.le_trans (colF_len 1000 x9) hl9
    generalize colF 1000 x9 = x10 at hl10 hres F10
    clear FF9 NN9
    dsimp only
    refine wpAny_execs_cons ?_
    refine whl_start 1000 ?_
    refine pl_loop2 (by passes_own) cut_len 1000 x10 _ _ _ (Nat.lt_of_le_of_lt hl10 (by decide)) (Nat.le_trans hl10 (by decide)) F10 N10 fun h11 k11 t11 c11 F11 N11 => ?_
    rw [← hres] at F11
    clear F10 N10
    dsimp only
    (repeat' (first | (k_unfold; (try dsimp only)) | ((fail_if_success (with_reducible show wpAny _ _ (PySem.call (Value.builtin "str.replace") _) _ _ _)); first | walk1 | (dsimp only; walk1)) | fail "no step"))
    rename Fr h₀ _ _ _ => kF
    rename News h₀ _ _ _ => kN
    exact hret t11 _ ps5 kF (fun p hp => kN p (by rw [← hnw]; exact .tail _ hp)) hps5 hG6 hos
  case g4 => exact rfl
  case g5 => decide
  case g6 => exact rfl
  case g7 => exact rfl
  case g8 => k_room
end
section
open PySem PySem.W PyProof.Rows PySem.Calls PySem.Spec
theorem mM_abs {n : Str} {v0 : Option Value} {Dt : Addr} {mv rel kind which : Value} {ly lv : Addr} {r : Str → Option Value} {u : Str → Option Value → Option Value} (h : n ∉ [Str.ofString "turned", Str.ofString "moved", Str.ofString "release", Str.ofString "which", Str.ofString "kind", Str.ofString "versions", Str.ofString "systems"]) :
    (fun y => u y (if y = n then v0 else mM Dt mv rel kind which ly lv r y)) = (fun y => u y (mM Dt mv rel kind which ly lv (fun y => if y = n then v0 else r y) y)) := by
  funext y
  congr 1
  unfold mM
  by_cases e : y = n
  · subst e
    simp only [List.mem_cons, List.not_mem_nil, or_false, not_or] at h
    obtain ⟨h1, h2, h3, h4, h5, h6, h7⟩ := h
    rw [if_pos rfl, if_neg h1, if_neg h2, if_neg h3, if_neg h4, if_neg h5, if_neg h6, if_neg h7]
    show _ = ite (y = y) _ _
    rw [if_pos rfl]
  · simp only [if_neg e]
section
variable {w : World} {cn : Str} {cs : Scope} {L0 a : Addr} {ccd : Value} {L : Addr} {g : Heap} {s : Shared} {Q : Flow → Shared → Prop} {E : Value → Shared → Prop} {mean : ExcName → Option Value} {mg mb : Str → Option Value} {base : Heap}
  {Dt dt lk lv ly Dh : Addr} {mv rel kind which : Value} {r : Str → Option Value} {c1 c2 c3 c4 od : Obj} {ps : Array Value} {news : List (Addr × Obj)} {old : Int} {u9 : Tok} {vk vv vy vt : List Value} {nk nv ny nt : Nat} {x0 x1 x2 x3 : Str} {a0 a1 a2 a3 : Tok}
set_option maxRecDepth 100000 in
set_option maxHeartbeats 2000000 in
theorem m_facts (G' : G2 w mean mg mb (A1 cn cs L0 a ccd) base [envOf cn cs L0 a ccd] g) (F : Fr g L s.heap (fun y => if y = Str.ofString "header" then some (.ref Dh) else mM Dt mv rel kind which ly lv r y))
    (N : News g L s.heap ((Dh, listOf #[.str x0 a0, .str x1 a1, .str x2 a2, .str x3 a3] 0) :: (Dt, listOf vt.toArray nt) :: (dt, od) :: (lk, listOf vk.toArray nk) :: (lv, listOf vv.toArray nv) :: (ly, listOf vy.toArray ny) :: (L + 1 + 1 + 1 + 1, c1) :: (L + 1 + 1 + 1, c2) :: (L + 1 + 1, c3) :: (L + 1, c4) :: (23, tabObj ps) :: news))
    (hl0 : x0.length ≤ 2000) (hl1 : x1.length ≤ 2000) (hl2 : x2.length ≤ 2000) (hl3 : x3.length ≤ 2000)
    {xs : List Str} {kps : List (Str × Str)} (hhttp : hend (hrun (KStt.codes (Txt.join (Str.ofString ", ") [x0, x1, x2, x3]))) = xs) (hxp : xs.length = kps.length) (hx : ∀ (i : Nat) (x : Str) (p : Str × Str), xs[i]? = some x → kps[i]? = some p → Txt.splitMax x (Str.ofString "=") 1 = [p.1, p.2] ∧ p.2.length ≠ 0 ∧ x.length ≤ 1000) (hkp : kps.length ≤ 10)
    (cont : ∀ (h : Heap) (tk : Nat) (df : Addr) (of : Obj) (kf : List (Str × Value)) (r' : Str → Option Value), of.IsDictOf (strKind PP w) kf → PyProof.V.FlatPairs PyData.str kf (kqD kps) → (df == sysModules) = false → Fr g L h (fun y => if y = Str.ofString "facts" then some (.ref df) else mM Dt mv rel kind which ly lv r' y) →
      News g L h ((df, of) :: (Dt, listOf vt.toArray nt) :: (dt, od) :: (lk, listOf vk.toArray nk) :: (lv, listOf vv.toArray nv) :: (ly, listOf vy.toArray ny) :: (L + 1 + 1 + 1 + 1, c1) :: (L + 1 + 1 + 1, c2) :: (L + 1 + 1, c3) :: (L + 1, c4) :: (23, tabObj ps) :: news) →
      wpC (model PP w) (mA cn cs L0 a ccd L) (execs (mBody.drop 10) (mEnv L)) Q E { s with heap := h, toks := tk }) :
    wpC (model PP w) (mA cn cs L0 a ccd L) (execs (mBody.drop 9) (mEnv L)) Q E s := by
  (w_top off; k_with_none; (have hz9 : PySem.Challenge.rw_mj0138_01 = PySem.Challenge.rw_mj0138_01 ∧ hd.heap_39 = hd.heap_39 := by (k_fill; exact ⟨rfl, rfl⟩)); clear hz9)
  obtain ⟨B', X', T', XB', TB', D'⟩ := id G'
  clear XB' TB' D'
  refine wpC_execs_later ?_
  (repeat' (first | (k_unfold; (try dsimp only)) | ((fail_if_success (with_reducible show wpAny _ _ (PySem.call (Value.builtin "str.join") _) _ _ _)); first | walk1 | (dsimp only; walk1)) | fail "no step"))
  rename Fr g L _ _ => F1
  rename News g L _ _ => N1
  refine' join_list (ys := [x0, x1, x2, x3]) (News.isList N1 (.head _)) (.cons _ _ (.cons _ _ (.cons _ _ (.cons _ _ .nil)))) ?hok ?_
  case hok => show (x0.length + (x1.length + (x2.length + (x3.length + 0)))) + 4 * 2 ≤ _; omega
  intro tj kj
  have hjl : (Txt.join (Str.ofString ", ") [x0, x1, x2, x3]).length ≤ 10000 := by
    have h1 := StrLaws.join_length_le (Str.ofString ", ") [x0, x1, x2, x3]
    have h2 : ([x0, x1, x2, x3].map (·.length)).sum + [x0, x1, x2, x3].length * (Str.ofString ", ").length = (x0.length + (x1.length + (x2.length + (x3.length + 0)))) + 4 * 2 := rfl
    show (Builtin.Str.glued _ _).length ≤ _
    rw [StrLaws.glued_eq_join]
    omega
  generalize Txt.join (Str.ofString ", ") [x0, x1, x2, x3] = J at hjl hhttp ⊢
  (repeat' (first | (k_unfold; (try dsimp only)) | ((fail_if_success (with_reducible show wpAny _ _ (PySem.call (Value.ref _) _) _ _ _)); (fail_if_success (with_reducible show wpAny _ _ (subscriptTail _ _ (Value.ref _) (Value.int _ _)) _ _ _)); (fail_if_success (with_reducible show wpAny _ _ (subscriptTail _ _ (Value.ref _) (Value.str _ _)) _ _ _)); (fail_if_success (with_reducible show LCg.CompRest _ _ _ _ _ _ _ _ _ _ _ _ _ _ _ _ _ _ _)); (fail_if_success (with_reducible show LCt.CompRestT _ _ _ _ _ _ _ _ _ _ _ _ _ _ _ _ _ _ _ _)); first | walk1 | (dsimp only; walk1)) | fail "no step"))
  refine ct_http w J _ hjl mean mg mb _ _ _ _ _ _ _ _ _ _ _ _ _ _ _ B' F1 X' N1 T' rfl trivial ?_
  intro Dp us np h2 q2 hus F2 N2
  rw [hhttp] at hus
  clear F1 N1
  (repeat' (first | (k_unfold; (try dsimp only)) | ((fail_if_success (with_reducible show wpAny _ _ (PySem.call (Value.ref _) _) _ _ _)); (fail_if_success (with_reducible show wpAny _ _ (subscriptTail _ _ (Value.ref _) (Value.int _ _)) _ _ _)); (fail_if_success (with_reducible show wpAny _ _ (subscriptTail _ _ (Value.ref _) (Value.str _ _)) _ _ _)); (fail_if_success (with_reducible show LCg.CompRest _ _ _ _ _ _ _ _ _ _ _ _ _ _ _ _ _ _ _)); (fail_if_success (with_reducible show LCt.CompRestT _ _ _ _ _ _ _ _ _ _ _ _ _ _ _ _ _ _ _ _)); first | walk1 | (dsimp only; walk1)) | fail "no step"))
  refine ct_keqv w us xs kps Dp np hus hxp hx hkp mean mg mb _ _ _ _ _ _ _ _ _ _ _ _ _ _ _ B' F2 X' N2 T' rfl ⟨_, rfl⟩ ?_
  intro df of kf h3 q3 hof hff hlf F3 N3 l3
  clear F2 N2
  (repeat' (first | (k_unfold; (try dsimp only)) | ((fail_if_success (with_reducible show wpAny _ _ (PySem.call (Value.ref _) _) _ _ _)); (fail_if_success (with_reducible show wpAny _ _ (subscriptTail _ _ (Value.ref _) (Value.int _ _)) _ _ _)); (fail_if_success (with_reducible show wpAny _ _ (subscriptTail _ _ (Value.ref _) (Value.str _ _)) _ _ _)); (fail_if_success (with_reducible show LCg.CompRest _ _ _ _ _ _ _ _ _ _ _ _ _ _ _ _ _ _ _)); (fail_if_success (with_reducible show LCt.CompRestT _ _ _ _ _ _ _ _ _ _ _ _ _ _ _ _ _ _ _ _)); first | walk1 | (dsimp only; walk1)) | fail "no step"))
  rename Fr g L _ _ => F4
  rename News g L _ _ => N4
  rw [mM_abs (n := Str.ofString "header") (u := fun y z => if y = Str.ofString "facts" then some (.ref df) else z) (by decide)] at F4
  refine cont _ _ df of kf _ hof hff hlf F4 ?_
  intro p hp
  rcases List.mem_cons.mp hp with rfl | hp
  · exact N4 _ (.head _)
  · exact N4 _ (.tail _ (.tail _ (.tail _ hp)))
end
end
section
open PySem PySem.W PyProof.Rows PySem.Calls PySem.Spec
noncomputable def fl (k0 : Str) (l : List Str) : List Str := l.filter fun k => k != k0
theorem fl_snoc {k0 : Str} {l : List Str} {x : Str} : fl k0 (l ++ [x]) = if (x != k0) = true then fl k0 l ++ [x] else fl k0 l := by
  unfold fl
  rw [List.filter_append]
  by_cases h : (x != k0) = true
  · rw [if_pos h, List.filter_cons, if_pos h]; rfl
  · rw [if_neg h, List.filter_cons, if_neg h, List.filter_nil, List.append_nil]
theorem strs_one {vs : List Value} {xs : List Str} {x : Str} (h : StrsAre vs xs) (t : Tok) : StrsAre (vs ++ [.str x t]) (xs ++ [x]) := h.append' (.cons _ _ .nil)
theorem rest_cutN {prog : Program} {w : World} {A : Around} {g : Heap} {L : Addr} {m : Str → Option Value} {env : Env} {ct elt : Expr} {x : Str} {scope : Scope} {cl : List (Str × Addr)} {s : Shared} {S : List (Addr × Obj) → Prop} {P : Nat → Value → Prop} {Fin : List Value → List (Addr × Obj) → Prop} {k i : Nat} {ys : List Value} {news : List (Addr × Obj)}
    (zs : List Str) (H : ∀ ys, StrsAre ys zs → LCt.CompRestT prog w A g L m env ct elt x scope cl s S P Fin k (i + 1) ys news)
    (h : (∀ ys, StrsAre ys zs → LCt.CompRestT prog w A g L m env ct elt x scope cl s S P Fin k (i + 1) ys news) → LCt.CompRestT prog w A g L m env ct elt x scope cl s S P Fin (k + 1) i ys news) : LCt.CompRestT prog w A g L m env ct elt x scope cl s S P Fin (k + 1) i ys news := h H
theorem skip2 {g h : Heap} {L : Addr} {x a b : Addr × Obj} {rest : List (Addr × Obj)} (N : News g L h (x :: a :: b :: rest)) : News g L h (x :: rest) := fun p hp => by
  rcases List.mem_cons.mp hp with rfl | hp
  · exact N _ (.head _)
  · exact N _ (.tail _ (.tail _ (.tail _ hp)))
theorem skip1 {g h : Heap} {L : Addr} {x a : Addr × Obj} {rest : List (Addr × Obj)} (N : News g L h (x :: a :: rest)) : News g L h (x :: rest) := fun p hp => by
  rcases List.mem_cons.mp hp with rfl | hp
  · exact N _ (.head _)
  · exact N _ (.tail _ (.tail _ hp))
section
variable {w : World} {cn : Str} {cs : Scope} {L0 a : Addr} {ccd : Value} {L : Addr} {g : Heap} {s : Shared} {Q : Flow → Shared → Prop} {E : Value → Shared → Prop} {mean : ExcName → Option Value} {mg mb : Str → Option Value} {base : Heap}
  {Dt dt lk lv ly df : Addr} {mv rel kind which : Value} {r : Str → Option Value} {c1 c2 c3 c4 od of : Obj} {ps : Array Value} {news : List (Addr × Obj)} {old way : Int} {u9 u7 : Tok} {vk vv vy vt : List Value} {nk nv ny nt : Nat} {k0 k1 k2 k3 : Str}
set_option maxRecDepth 100000 in
set_option maxHeartbeats 2000000 in
theorem m_order (G' : G2 w mean mg mb (A1 cn cs L0 a ccd) base [envOf cn cs L0 a ccd] g) (F : Fr g L s.heap (fun y => if y = Str.ofString "facts" then some (.ref df) else mM Dt mv rel kind which ly lv r y))
    (N : News g L s.heap ((df, of) :: (Dt, listOf vt.toArray nt) :: (dt, od) :: (lk, listOf vk.toArray nk) :: (lv, listOf vv.toArray nv) :: (ly, listOf vy.toArray ny) :: (L + 1 + 1 + 1 + 1, c1) :: (L + 1 + 1 + 1, c2) :: (L + 1 + 1, c3) :: (L + 1, c4) :: (23, tabObj ps) :: news))
    (d1 : c1.data = .cell (some (.ref dt))) (d2 : c2.data = .cell (some (.int old u9))) (d3 : c3.data = .cell (some (.int way u7))) (d4 : c4.data = .cell (some (.ref lk)))
    (hvk : StrsAre vk keyL) (hvt : StrsAre vt [k1, k2, k3]) (b9 : 0 ≤ old ∧ old < 3) (hk0 : keyL[old.toNat]? = some k0)
    {q1 q2 : Str} (hfil : [k1, k2, k3].filter (fun k => k != k0) = [q1, q2])
    (cont : ∀ (h : Heap) (tk : Nat) (Do : Addr) (no : Nat) (e0 e1 e2 : Tok), Fr g L h (fun y => if y = Str.ofString "order" then some (.ref Do) else if y = Str.ofString "facts" then some (.ref df) else mM Dt mv rel kind which ly lv r y) →
      News g L h ((Do, listOf #[.str k0 e0, .str q1 e1, .str q2 e2] no) :: (df, of) :: (Dt, listOf vt.toArray nt) :: (dt, od) :: (lk, listOf vk.toArray nk) :: (lv, listOf vv.toArray nv) :: (ly, listOf vy.toArray ny) :: (L + 1 + 1 + 1 + 1, c1) :: (L + 1 + 1 + 1, c2) :: (L + 1 + 1, c3) :: (L + 1, c4) :: (23, tabObj ps) :: news) →
      wpC (model PP w) (mA cn cs L0 a ccd L) (execs (mBody.drop 11) (mEnv L)) Q E { s with heap := h, toks := tk }) :
    wpC (model PP w) (mA cn cs L0 a ccd L) (execs (mBody.drop 10) (mEnv L)) Q E s := by
  (w_top off; k_with_none; (have hz9 : PySem.Challenge.rw_mj0138_01 = PySem.Challenge.rw_mj0138_01 ∧ hd.heap_39 = hd.heap_39 := by (k_fill; exact ⟨rfl, rfl⟩)); clear hz9)
  obtain ⟨B', X', T', XB', TB', D'⟩ := id G'
  clear XB' TB' D'
  cases hvt with | cons _ t1 hvt =>
  cases hvt with | cons _ t2 hvt =>
  cases hvt with | cons _ t3 hvt =>
  cases hvt
  refine wpC_execs_later ?_
  (repeat' (first | (k_unfold; (try dsimp only)) | ((fail_if_success (with_reducible show wpAny _ _ (PySem.call (Value.ref _) _) _ _ _)); (fail_if_success (with_reducible show wpAny _ _ (subscriptTail _ _ (Value.ref _) (Value.int _ _)) _ _ _)); (fail_if_success (with_reducible show wpAny _ _ (subscriptTail _ _ (Value.ref _) (Value.str _ _)) _ _ _)); (fail_if_success (with_reducible show LCg.CompRest _ _ _ _ _ _ _ _ _ _ _ _ _ _ _ _ _ _ _)); (fail_if_success (with_reducible show LCt.CompRestT _ _ _ _ _ _ _ _ _ _ _ _ _ _ _ _ _ _ _ _)); first | walk1 | (dsimp only; walk1)) | fail "no step"))
  rename Fr g L _ _ => F8
  rename News g L _ _ => N8
  refine item_sa (xs := keyL) (News.isList N8 (by k_mem)) hvk b9.1 (by simpa using b9.2) (by omega) fun k0' tk0 hk0' => ?_
  obtain rfl : k0 = k0' := Option.some.inj (hk0.symm.trans hk0')
  (repeat' (first | (k_unfold; (try dsimp only)) | ((fail_if_success (with_reducible show wpAny _ _ (PySem.eval (Expr.ListComp _ _ _ _) _) _ _ _)); (fail_if_success (with_reducible show wpAny _ _ (PySem.call (Value.ref _) _) _ _ _)); (fail_if_success (with_reducible show wpAny _ _ (subscriptTail _ _ (Value.ref _) (Value.int _ _)) _ _ _)); (fail_if_success (with_reducible show wpAny _ _ (subscriptTail _ _ (Value.ref _) (Value.str _ _)) _ _ _)); (fail_if_success (with_reducible show LCg.CompRest _ _ _ _ _ _ _ _ _ _ _ _ _ _ _ _ _ _ _)); (fail_if_success (with_reducible show LCt.CompRestT _ _ _ _ _ _ _ _ _ _ _ _ _ _ _ _ _ _ _ _)); first | walk1 | (dsimp only; walk1)) | fail "no step"))
  rename Fr g L _ _ => F9
  rename News g L _ _ => N9
  refine LCt.ListComp_T F9 rfl (by decide) rfl (by decide) rfl ?_
  (repeat' (first | (k_unfold; (try dsimp only)) | ((fail_if_success (with_reducible show wpAny _ _ (PySem.eval (Expr.ListComp _ _ _ _) _) _ _ _)); (fail_if_success (with_reducible show wpAny _ _ (PySem.call (Value.ref _) _) _ _ _)); (fail_if_success (with_reducible show wpAny _ _ (subscriptTail _ _ (Value.ref _) (Value.int _ _)) _ _ _)); (fail_if_success (with_reducible show wpAny _ _ (subscriptTail _ _ (Value.ref _) (Value.str _ _)) _ _ _)); (fail_if_success (with_reducible show LCg.CompRest _ _ _ _ _ _ _ _ _ _ _ _ _ _ _ _ _ _ _)); (fail_if_success (with_reducible show LCt.CompRestT _ _ _ _ _ _ _ _ _ _ _ _ _ _ _ _ _ _ _ _)); first | walk1 | (dsimp only; walk1)) | fail "no step"))
  refine rest_cutN (fl k0 [k1]) ?r2 ?s1
  case s1 =>
    intro H
    have hys : StrsAre [] (fl k0 []) := .nil
    refine LCt.CompRestT.succ ?_
    intro v I oI C oC Dc m2 h11 q11 E' hv hC hx F11 N11 off ne
    obtain rfl : Value.str k1 t1 = v := Option.some.inj hv
    (repeat' (first | (k_unfold; (try dsimp only)) | ((fail_if_success (with_reducible show wpAny _ _ (PySem.call (Value.ref _) _) _ _ _)); (fail_if_success (with_reducible show wpAny _ _ (subscriptTail _ _ (Value.ref _) (Value.int _ _)) _ _ _)); (fail_if_success (with_reducible show wpAny _ _ (subscriptTail _ _ (Value.ref _) (Value.str _ _)) _ _ _)); (fail_if_success (with_reducible show LCg.CompRest _ _ _ _ _ _ _ _ _ _ _ _ _ _ _ _ _ _ _)); (fail_if_success (with_reducible show LCt.CompRestT _ _ _ _ _ _ _ _ _ _ _ _ _ _ _ _ _ _ _ _)); first | walk1 | (dsimp only; walk1)) | fail "no step"))
    refine item_sa (xs := keyL) (News.isList N11 (by k_mem)) hvk b9.1 (by simpa using b9.2) (by omega) fun k0' tk0' hk0' => ?_
    obtain rfl : k0 = k0' := Option.some.inj (hk0.symm.trans hk0')
    (repeat' (first | (k_unfold; (try dsimp only)) | ((fail_if_success (with_reducible show wpAny _ _ (PySem.call (Value.ref _) _) _ _ _)); (fail_if_success (with_reducible show wpAny _ _ (subscriptTail _ _ (Value.ref _) (Value.int _ _)) _ _ _)); (fail_if_success (with_reducible show wpAny _ _ (subscriptTail _ _ (Value.ref _) (Value.str _ _)) _ _ _)); (fail_if_success (with_reducible show LCg.CompRest _ _ _ _ _ _ _ _ _ _ _ _ _ _ _ _ _ _ _)); (fail_if_success (with_reducible show LCt.CompRestT _ _ _ _ _ _ _ _ _ _ _ _ _ _ _ _ _ _ _ _)); first | walk1 | (dsimp only; walk1)) | fail "no step"))
    all_goals (
      rename (k1 != k0) = _ => B9
      try k_unfold
      refine LCg.CompEnd.intro F11 N11 _ (fun p hp => hp) off (.inr ⟨_, .tail _ (.tail _ (.head _)), rfl, _, rfl⟩) ?_
      refine H _ ?_
      show StrsAre _ (fl k0 ([] ++ [k1]))
      rw [fl_snoc, B9]
      first | exact strs_one hys t1 | exact hys)
  case r2 =>
  intro ys hys
  refine rest_cutN (fl k0 [k1, k2]) ?r3 ?s2
  case s2 =>
    intro H
    refine LCt.CompRestT.succ ?_
    intro v I oI C oC Dc m2 h11 q11 E' hv hC hx F11 N11 off ne
    obtain rfl : Value.str k2 t2 = v := Option.some.inj hv
    (repeat' (first | (k_unfold; (try dsimp only)) | ((fail_if_success (with_reducible show wpAny _ _ (PySem.call (Value.ref _) _) _ _ _)); (fail_if_success (with_reducible show wpAny _ _ (subscriptTail _ _ (Value.ref _) (Value.int _ _)) _ _ _)); (fail_if_success (with_reducible show wpAny _ _ (subscriptTail _ _ (Value.ref _) (Value.str _ _)) _ _ _)); (fail_if_success (with_reducible show LCg.CompRest _ _ _ _ _ _ _ _ _ _ _ _ _ _ _ _ _ _ _)); (fail_if_success (with_reducible show LCt.CompRestT _ _ _ _ _ _ _ _ _ _ _ _ _ _ _ _ _ _ _ _)); first | walk1 | (dsimp only; walk1)) | fail "no step"))
    refine item_sa (xs := keyL) (News.isList N11 (by k_mem)) hvk b9.1 (by simpa using b9.2) (by omega) fun k0' tk0' hk0' => ?_
    obtain rfl : k0 = k0' := Option.some.inj (hk0.symm.trans hk0')
    (repeat' (first | (k_unfold; (try dsimp only)) | ((fail_if_success (with_reducible show wpAny _ _ (PySem.call (Value.ref _) _) _ _ _)); (fail_if_success (with_reducible show wpAny _ _ (subscriptTail _ _ (Value.ref _) (Value.int _ _)) _ _ _)); (fail_if_success (with_reducible show wpAny _ _ (subscriptTail _ _ (Value.ref _) (Value.str _ _)) _ _ _)); (fail_if_success (with_reducible show LCg.CompRest _ _ _ _ _ _ _ _ _ _ _ _ _ _ _ _ _ _ _)); (fail_if_success (with_reducible show LCt.CompRestT _ _ _ _ _ _ _ _ _ _ _ _ _ _ _ _ _ _ _ _)); first | walk1 | (dsimp only; walk1)) | fail "no step"))
    all_goals (
      rename (k2 != k0) = _ => B9
      try k_unfold
      refine LCg.CompEnd.intro F11 N11 _ (fun p hp => hp) off (.inr ⟨_, .tail _ (.tail _ (.head _)), rfl, _, rfl⟩) ?_
      refine H _ ?_
      show StrsAre _ (fl k0 ([k1] ++ [k2]))
      rw [fl_snoc, B9]
      first | exact strs_one hys t2 | exact hys)
  case r3 =>
  clear hys ys
  intro ys hys
  refine rest_cutN (fl k0 [k1, k2, k3]) ?r4 ?s3
  case s3 =>
    intro H
    refine LCt.CompRestT.succ ?_
    intro v I oI C oC Dc m2 h11 q11 E' hv hC hx F11 N11 off ne
    obtain rfl : Value.str k3 t3 = v := Option.some.inj hv
    (repeat' (first | (k_unfold; (try dsimp only)) | ((fail_if_success (with_reducible show wpAny _ _ (PySem.call (Value.ref _) _) _ _ _)); (fail_if_success (with_reducible show wpAny _ _ (subscriptTail _ _ (Value.ref _) (Value.int _ _)) _ _ _)); (fail_if_success (with_reducible show wpAny _ _ (subscriptTail _ _ (Value.ref _) (Value.str _ _)) _ _ _)); (fail_if_success (with_reducible show LCg.CompRest _ _ _ _ _ _ _ _ _ _ _ _ _ _ _ _ _ _ _)); (fail_if_success (with_reducible show LCt.CompRestT _ _ _ _ _ _ _ _ _ _ _ _ _ _ _ _ _ _ _ _)); first | walk1 | (dsimp only; walk1)) | fail "no step"))
    refine item_sa (xs := keyL) (News.isList N11 (by k_mem)) hvk b9.1 (by simpa using b9.2) (by omega) fun k0' tk0' hk0' => ?_
    obtain rfl : k0 = k0' := Option.some.inj (hk0.symm.trans hk0')
    (repeat' (first | (k_unfold; (try dsimp only)) | ((fail_if_success (with_reducible show wpAny _ _ (PySem.call (Value.ref _) _) _ _ _)); (fail_if_success (with_reducible show wpAny _ _ (subscriptTail _ _ (Value.ref _) (Value.int _ _)) _ _ _)); (fail_if_success (with_reducible show wpAny _ _ (subscriptTail _ _ (Value.ref _) (Value.str _ _)) _ _ _)); (fail_if_success (with_reducible show LCg.CompRest _ _ _ _ _ _ _ _ _ _ _ _ _ _ _ _ _ _ _)); (fail_if_success (with_reducible show LCt.CompRestT _ _ _ _ _ _ _ _ _ _ _ _ _ _ _ _ _ _ _ _)); first | walk1 | (dsimp only; walk1)) | fail "no step"))
    all_goals (
      rename (k3 != k0) = _ => B9
      try k_unfold
      refine LCg.CompEnd.intro F11 N11 _ (fun p hp => hp) off (.inr ⟨_, .tail _ (.tail _ (.head _)), rfl, _, rfl⟩) ?_
      refine H _ ?_
      show StrsAre _ (fl k0 ([k1, k2] ++ [k3]))
      rw [fl_snoc, B9]
      first | exact strs_one hys t3 | exact hys)
  case r4 =>
  clear hys ys
  intro ys hys
  rw [show fl k0 [k1, k2, k3] = [q1, q2] from hfil] at hys
  cases hys with | cons _ f1 hys =>
  cases hys with | cons _ f2 hys =>
  cases hys
  refine LCt.CompRestT.zero ?_
  intro Dl h12 q12 F12 N12 off12
  (repeat' (first | (k_unfold; (try dsimp only)) | ((fail_if_success (with_reducible show wpAny _ _ (PySem.call (Value.ref _) _) _ _ _)); (fail_if_success (with_reducible show wpAny _ _ (subscriptTail _ _ (Value.ref _) (Value.int _ _)) _ _ _)); (fail_if_success (with_reducible show wpAny _ _ (subscriptTail _ _ (Value.ref _) (Value.str _ _)) _ _ _)); (fail_if_success (with_reducible show LCg.CompRest _ _ _ _ _ _ _ _ _ _ _ _ _ _ _ _ _ _ _)); (fail_if_success (with_reducible show LCt.CompRestT _ _ _ _ _ _ _ _ _ _ _ _ _ _ _ _ _ _ _ _)); first | walk1 | (dsimp only; walk1)) | fail "no step"))
  rename Fr g L _ _ => F20
  rename News g L _ _ => N20
  exact cont _ _ _ _ _ _ _ F20 (skip2 N20)
end
end
section
open PySem PySem.W PyProof.Rows PySem.Calls PySem.Spec
theorem compEnd_new {h₀ : Heap} {L I C D q : Addr} {m : Str → Option Value} {s₁ : Shared} {oI oC oD t : Obj} {S : List (Addr × Obj) → Prop} {rest : Value → List (Addr × Obj) → Prop} {y : Value} {h' : Heap} {tk : Nat} {more : List (Addr × Obj)} {R : Prop}
    (F : Fr h₀ L h' m) (N : News h₀ L h' ((q, t) :: (I, oI) :: (C, oC) :: (D, oD) :: more)) (off : LCg.Off3 I C D more) (l : @LT.lt Nat _ I q ∧ @LT.lt Nat _ C q ∧ @LT.lt Nat _ D q ∧ R) (hS : S ((q, t) :: more)) (r : rest y ((q, t) :: more)) :
    LCg.CompEnd h₀ L m s₁ I oI C oC D oD S rest y { s₁ with heap := h', toks := tk } := by
  refine LCg.CompEnd.intro F N ((q, t) :: more) (fun p hp => ?_) ⟨⟨Nat.ne_of_gt l.1, Nat.ne_of_gt l.2.1, Nat.ne_of_gt l.2.2.1⟩, off⟩ hS r
  rcases List.mem_cons.mp hp with rfl | hp
  · exact .tail _ (.head _)
  rcases List.mem_cons.mp hp with rfl | hp
  · exact .tail _ (.tail _ (.head _))
  rcases List.mem_cons.mp hp with rfl | hp
  · exact .tail _ (.tail _ (.tail _ (.head _)))
  rcases List.mem_cons.mp hp with rfl | hp
  · exact .head _
  · exact .tail _ (.tail _ (.tail _ (.tail _ hp)))
theorem pair_reads {h : Heap} {q : Addr} {x y : Str} {t u : Tok} {n : Nat} (hq : h.get? q = some (tupO #[.str x t, .str y u] n)) : Reads h (.ref q) (.tuple [.str x, .str y]) [] :=
  reads_tuple_at hq rfl rfl (.cons (.str _ _) (.cons (.str _ _) .nil))
theorem ne_pairs {w : World} {A : Around} {E : Value → Shared → Prop} {s : Shared} {a b q0 q1 q2 p0 p1 p2 : Addr} {x0 x1 x2 y0 y1 y2 : Str} {t0 t1 t2 u0 u1 u2 t0' t1' t2' u0' u1' u2' : Tok} {n0 n1 n2 m0 m1 m2 n m : Nat} {Q : Value → Shared → Prop}
    (ha : s.heap.get? a = some (listOf #[.ref p0, .ref p1, .ref p2] n)) (hb : s.heap.get? b = some (listOf #[.ref q0, .ref q1, .ref q2] m))
    (a0 : s.heap.get? p0 = some (tupO #[.str x0 t0, .str y0 u0] n0)) (a1 : s.heap.get? p1 = some (tupO #[.str x1 t1, .str y1 u1] n1)) (a2 : s.heap.get? p2 = some (tupO #[.str x2 t2, .str y2 u2] n2))
    (b0 : s.heap.get? q0 = some (tupO #[.str x0 t0', .str y0 u0'] m0)) (b1 : s.heap.get? q1 = some (tupO #[.str x1 t1', .str y1 u1'] m1)) (b2 : s.heap.get? q2 = some (tupO #[.str x2 t2', .str y2 u2'] m2))
    (h0 : Asc x0) (h1 : Asc x1) (h2 : Asc x2) (k0 : Asc y0) (k1 : Asc y1) (k2 : Asc y2) (hu : A.units + 64 < cLine) (h : Q (.bool false) s) :
    wpAny (model PP w) A (compareOp .NotEq (.ref a) (.ref b)) Q E s := by
  have sh : SeqAt.shaped (.list [.tuple [.str x0, .str y0], .tuple [.str x1, .str y1], .tuple [.str x2, .str y2]]) = true := by
    simp [SeqAt.shaped, PyData.canLay0, PyData.canLayAll0, PyData.depth, PyData.depthAll, h0.ok, h1.ok, h2.ok, k0.ok, k1.ok, k2.ok]
  exact ne_dataH (reads_list_at ha rfl rfl (.cons (pair_reads a0) (.cons (pair_reads a1) (.cons (pair_reads a2) .nil)))) (reads_list_at hb rfl rfl (.cons (pair_reads b0) (.cons (pair_reads b1) (.cons (pair_reads b2) .nil)))) sh sh hu
    (by simp only [PyData.eqv, PyData.eqvAll, beq_self_eq_true, Bool.and_true, Bool.not_true]; exact h)
theorem flat3 {a b c x y z : Str} {kf : List (Str × Value)} (h : PyProof.V.FlatPairs PyData.str kf [(.str a, .str x), (.str b, .str y), (.str c, .str z)]) : ∃ t1 t2 t3, kf = [(a, .str x t1), (b, .str y t2), (c, .str z t3)] := by
  generalize hD : [(PyData.str a, PyData.str x), (PyData.str b, PyData.str y), (PyData.str c, PyData.str z)] = D at h
  cases h with
  | nil => cases hD
  | cons f1 h =>
    injection hD with e1 hD
    injection e1 with e1 e2
    injection e1 with e1
    subst e1 e2
    obtain ⟨t1, rfl⟩ := PyProof.V.Flat.str_inv f1
    cases h with
    | nil => cases hD
    | cons f2 h =>
      injection hD with e1 hD
      injection e1 with e1 e2
      injection e1 with e1
      subst e1 e2
      obtain ⟨t2, rfl⟩ := PyProof.V.Flat.str_inv f2
      cases h with
      | nil => cases hD
      | cons f3 h =>
        injection hD with e1 hD
        injection e1 with e1 e2
        injection e1 with e1
        subst e1 e2
        obtain ⟨t3, rfl⟩ := PyProof.V.Flat.str_inv f3
        cases h with
        | nil => exact ⟨t1, t2, t3, rfl⟩
        | cons _ _ => cases hD
section
variable {w : World} {cn : Str} {cs : Scope} {L0 a : Addr} {ccd : Value} {L : Addr} {g : Heap} {s : Shared} {Q : Flow → Shared → Prop} {E : Value → Shared → Prop} {mean : ExcName → Option Value} {mg mb : Str → Option Value} {base : Heap}
  {Dt dt lk lv ly df Do : Addr} {mv rel kind which : Value} {r : Str → Option Value} {c1 c2 c3 c4 od of : Obj} {ps : Array Value} {news : List (Addr × Obj)} {old way : Int} {u9 u7 e0 e1 e2 : Tok} {vk vv vy vt : List Value} {nk nv ny nt no : Nat} {k0 k1 k2 k3 o0 o1 o2 v0 v1 v2 : Str}
set_option maxRecDepth 100000 in
set_option maxHeartbeats 2000000 in
theorem m_items (G' : G2 w mean mg mb (A1 cn cs L0 a ccd) base [envOf cn cs L0 a ccd] g) (F : Fr g L s.heap (fun y => if y = Str.ofString "order" then some (.ref Do) else if y = Str.ofString "facts" then some (.ref df) else mM Dt mv rel kind which ly lv r y))
    (N : News g L s.heap ((Do, listOf #[.str o0 e0, .str o1 e1, .str o2 e2] no) :: (df, of) :: (Dt, listOf vt.toArray nt) :: (dt, od) :: (lk, listOf vk.toArray nk) :: (lv, listOf vv.toArray nv) :: (ly, listOf vy.toArray ny) :: (L + 1 + 1 + 1 + 1, c1) :: (L + 1 + 1 + 1, c2) :: (L + 1 + 1, c3) :: (L + 1, c4) :: (23, tabObj ps) :: news))
    (d1 : c1.data = .cell (some (.ref dt))) (d2 : c2.data = .cell (some (.int old u9))) (d3 : c3.data = .cell (some (.int way u7))) (d4 : c4.data = .cell (some (.ref lk)))
    {kvs : List (Str × Value)} {TD : List (PyData × PyData)} (hod : od.IsDictOf (strKind PP w) kvs) (hfd : PyProof.V.FlatPairs PyData.str kvs TD) (hlo : (dt == sysModules) = false)
    (hl0 : PySem.Spec.lookup (PyData.str o0) TD = some (.str v0)) (hl1 : PySem.Spec.lookup (PyData.str o1) TD = some (.str v1)) (hl2 : PySem.Spec.lookup (PyData.str o2) TD = some (.str v2))
    {kf : List (Str × Value)} (hof : of.IsDictOf (strKind PP w) kf) (hff : PyProof.V.FlatPairs PyData.str kf [(.str o0, .str v0), (.str o1, .str v1), (.str o2, .str v2)]) (hlf : (df == sysModules) = false)
    (A0 : Asc o0) (A1' : Asc o1) (A2' : Asc o2) (B0 : Asc v0) (B1 : Asc v1) (B2 : Asc v2)
    (cont : ∀ (h : Heap) (tk : Nat), Fr g L h (fun y => if y = Str.ofString "order" then some (.ref Do) else if y = Str.ofString "facts" then some (.ref df) else mM Dt mv rel kind which ly lv r y) →
      News g L h ((df, of) :: (lv, listOf vv.toArray nv) :: (ly, listOf vy.toArray ny) :: (23, tabObj ps) :: news) →
      wpC (model PP w) (mA cn cs L0 a ccd L) (execs (mBody.drop 12) (mEnv L)) Q E { s with heap := h, toks := tk }) :
    wpC (model PP w) (mA cn cs L0 a ccd L) (execs (mBody.drop 11) (mEnv L)) Q E s := by
  (w_top off; k_with_none; (have hz9 : PySem.Challenge.rw_mj0138_01 = PySem.Challenge.rw_mj0138_01 ∧ hd.heap_39 = hd.heap_39 := by (k_fill; exact ⟨rfl, rfl⟩)); clear hz9)
  obtain ⟨B', X', T', XB', TB', D'⟩ := id G'
  clear XB' TB' D'
  obtain ⟨f0, f1, f2, rfl⟩ := flat3 hff
  refine wpC_execs_later ?_
  (repeat' (first | (k_unfold; (try dsimp only)) | ((fail_if_success (with_reducible show wpAny _ _ (PySem.eval (Expr.ListComp _ _ _ _) _) _ _ _)); (fail_if_success (with_reducible show wpAny _ _ (PySem.call (Value.ref _) _) _ _ _)); (fail_if_success (with_reducible show wpAny _ _ (subscriptTail _ _ (Value.ref _) (Value.int _ _)) _ _ _)); (fail_if_success (with_reducible show wpAny _ _ (subscriptTail _ _ (Value.ref _) (Value.str _ _)) _ _ _)); (fail_if_success (with_reducible show LCg.CompRest _ _ _ _ _ _ _ _ _ _ _ _ _ _ _ _ _ _ _)); (fail_if_success (with_reducible show LCt.CompRestT _ _ _ _ _ _ _ _ _ _ _ _ _ _ _ _ _ _ _ _)); first | walk1 | (dsimp only; walk1)) | fail "no step"))
  rename Fr g L _ _ => F1
  rename News g L _ _ => N1
  refine kdx_listN (knd := PySem.strKind PP w) (enc := PyData.str) (ps := [((fun t => Value.str o0 t), .str v0 f0), ((fun t => Value.str o1 t), .str v1 f1), ((fun t => Value.str o2 t), .str v2 f2)]) (by rfl) F1 N1 (.head _) (.tail _ (.tail _ (.head _))) hof (show 3 ≤ 16777216 by decide) (fun _ _ h => Value.isStrOf_shape h) rfl ?_
  clear F1 N1
  intro B9 l9
  refine KdxOpen.cons ?_
  intro p0 x0 z1 z2 z3
  refine KdxOpen.cons ?_
  intro p1 x1 z4 z5 z6
  refine KdxOpen.cons ?_
  intro p2 x2 z7 z8 z9
  refine KdxOpen.nil ?_
  intro cn9 h9 tk9 l10 F1 N1
  clear z1 z2 z3 z4 z5 z6 z7 z8 z9 l9 l10
  dsimp only [List.nil_append, List.cons_append] at N1
  (repeat' (first | (k_unfold; (try dsimp only)) | ((fail_if_success (with_reducible show wpAny _ _ (PySem.eval (Expr.ListComp _ _ _ _) _) _ _ _)); (fail_if_success (with_reducible show wpAny _ _ (PySem.call (Value.ref _) _) _ _ _)); (fail_if_success (with_reducible show wpAny _ _ (subscriptTail _ _ (Value.ref _) (Value.int _ _)) _ _ _)); (fail_if_success (with_reducible show wpAny _ _ (subscriptTail _ _ (Value.ref _) (Value.str _ _)) _ _ _)); (fail_if_success (with_reducible show LCg.CompRest _ _ _ _ _ _ _ _ _ _ _ _ _ _ _ _ _ _ _)); (fail_if_success (with_reducible show LCt.CompRestT _ _ _ _ _ _ _ _ _ _ _ _ _ _ _ _ _ _ _ _)); first | walk1 | (dsimp only; walk1)) | fail "no step"))
  rename Fr g L _ _ => F2
  rename News g L _ _ => N2
  refine LCg.ListComp_U F2 rfl (by decide) rfl (by decide) rfl ?_
  (repeat' (first | (k_unfold; (try dsimp only)) | ((fail_if_success (with_reducible show wpAny _ _ (PySem.eval (Expr.ListComp _ _ _ _) _) _ _ _)); (fail_if_success (with_reducible show wpAny _ _ (PySem.call (Value.ref _) _) _ _ _)); (fail_if_success (with_reducible show wpAny _ _ (subscriptTail _ _ (Value.ref _) (Value.int _ _)) _ _ _)); (fail_if_success (with_reducible show wpAny _ _ (subscriptTail _ _ (Value.ref _) (Value.str _ _)) _ _ _)); (fail_if_success (with_reducible show LCg.CompRest _ _ _ _ _ _ _ _ _ _ _ _ _ _ _ _ _ _ _)); (fail_if_success (with_reducible show LCt.CompRestT _ _ _ _ _ _ _ _ _ _ _ _ _ _ _ _ _ _ _ _)); first | walk1 | (dsimp only; walk1)) | fail "no step"))
  refine LCg.CompRest.succ ?_
  intro v I oI C oC Dc m2 h11 q11 E' hv hC hx F11 N11 off ne
  obtain rfl : Value.str o0 e0 = v := Option.some.inj hv
  (repeat' (first | (k_unfold; (try dsimp only)) | ((fail_if_success (with_reducible show wpAny _ _ (PySem.eval (Expr.ListComp _ _ _ _) _) _ _ _)); (fail_if_success (with_reducible show wpAny _ _ (PySem.call (Value.ref _) _) _ _ _)); (fail_if_success (with_reducible show wpAny _ _ (subscriptTail _ _ (Value.ref _) (Value.int _ _)) _ _ _)); (fail_if_success (with_reducible show wpAny _ _ (subscriptTail _ _ (Value.ref _) (Value.str _ _)) _ _ _)); (fail_if_success (with_reducible show LCg.CompRest _ _ _ _ _ _ _ _ _ _ _ _ _ _ _ _ _ _ _)); (fail_if_success (with_reducible show LCt.CompRestT _ _ _ _ _ _ _ _ _ _ _ _ _ _ _ _ _ _ _ _)); first | walk1 | (dsimp only; walk1)) | fail "no step"))
  refine item_strTab (TabAt.ofNews N11 (by k_mem) hlo hod hfd) hl0 fun v5 hv5 => ?_
  obtain ⟨g0, rfl⟩ := PyProof.V.Flat.str_inv hv5
  (repeat' (first | (k_unfold; (try dsimp only)) | ((fail_if_success (with_reducible show wpAny _ _ (PySem.eval (Expr.ListComp _ _ _ _) _) _ _ _)); (fail_if_success (with_reducible show wpAny _ _ (PySem.call (Value.ref _) _) _ _ _)); (fail_if_success (with_reducible show wpAny _ _ (subscriptTail _ _ (Value.ref _) (Value.int _ _)) _ _ _)); (fail_if_success (with_reducible show wpAny _ _ (subscriptTail _ _ (Value.ref _) (Value.str _ _)) _ _ _)); (fail_if_success (with_reducible show LCg.CompRest _ _ _ _ _ _ _ _ _ _ _ _ _ _ _ _ _ _ _)); (fail_if_success (with_reducible show LCt.CompRestT _ _ _ _ _ _ _ _ _ _ _ _ _ _ _ _ _ _ _ _)); first | walk1 | (dsimp only; walk1)) | fail "no step"))
  rename Fr g L _ _ => F12
  rename News g L _ _ => N12
  rename _ ∧ _ => lq
  refine compEnd_new F12 N12 off lq (.inr ⟨_, by k_mem, rfl, _, rfl⟩) ?_
  clear F12 N12 lq off ne hv hC hx hv5
  refine LCg.CompRest.succ ?_
  intro v I oI C oC Dc m2 h11 q11 E' hv hC hx F11 N11 off ne
  obtain rfl : Value.str o1 e1 = v := Option.some.inj hv
  (repeat' (first | (k_unfold; (try dsimp only)) | ((fail_if_success (with_reducible show wpAny _ _ (PySem.eval (Expr.ListComp _ _ _ _) _) _ _ _)); (fail_if_success (with_reducible show wpAny _ _ (PySem.call (Value.ref _) _) _ _ _)); (fail_if_success (with_reducible show wpAny _ _ (subscriptTail _ _ (Value.ref _) (Value.int _ _)) _ _ _)); (fail_if_success (with_reducible show wpAny _ _ (subscriptTail _ _ (Value.ref _) (Value.str _ _)) _ _ _)); (fail_if_success (with_reducible show LCg.CompRest _ _ _ _ _ _ _ _ _ _ _ _ _ _ _ _ _ _ _)); (fail_if_success (with_reducible show LCt.CompRestT _ _ _ _ _ _ _ _ _ _ _ _ _ _ _ _ _ _ _ _)); first | walk1 | (dsimp only; walk1)) | fail "no step"))
  refine item_strTab (TabAt.ofNews N11 (by k_mem) hlo hod hfd) hl1 fun v5 hv5 => ?_
  obtain ⟨g1, rfl⟩ := PyProof.V.Flat.str_inv hv5
  (repeat' (first | (k_unfold; (try dsimp only)) | ((fail_if_success (with_reducible show wpAny _ _ (PySem.eval (Expr.ListComp _ _ _ _) _) _ _ _)); (fail_if_success (with_reducible show wpAny _ _ (PySem.call (Value.ref _) _) _ _ _)); (fail_if_success (with_reducible show wpAny _ _ (subscriptTail _ _ (Value.ref _) (Value.int _ _)) _ _ _)); (fail_if_success (with_reducible show wpAny _ _ (subscriptTail _ _ (Value.ref _) (Value.str _ _)) _ _ _)); (fail_if_success (with_reducible show LCg.CompRest _ _ _ _ _ _ _ _ _ _ _ _ _ _ _ _ _ _ _)); (fail_if_success (with_reducible show LCt.CompRestT _ _ _ _ _ _ _ _ _ _ _ _ _ _ _ _ _ _ _ _)); first | walk1 | (dsimp only; walk1)) | fail "no step"))
  rename Fr g L _ _ => F12
  rename News g L _ _ => N12
  rename _ ∧ _ => lq
  refine compEnd_new F12 N12 off lq (.inr ⟨_, by k_mem, rfl, _, rfl⟩) ?_
  clear F12 N12 lq off ne hv hC hx hv5
  refine LCg.CompRest.succ ?_
  intro v I oI C oC Dc m2 h11 q11 E' hv hC hx F11 N11 off ne
  obtain rfl : Value.str o2 e2 = v := Option.some.inj hv
  (repeat' (first | (k_unfold; (try dsimp only)) | ((fail_if_success (with_reducible show wpAny _ _ (PySem.eval (Expr.ListComp _ _ _ _) _) _ _ _)); (fail_if_success (with_reducible show wpAny _ _ (PySem.call (Value.ref _) _) _ _ _)); (fail_if_success (with_reducible show wpAny _ _ (subscriptTail _ _ (Value.ref _) (Value.int _ _)) _ _ _)); (fail_if_success (with_reducible show wpAny _ _ (subscriptTail _ _ (Value.ref _) (Value.str _ _)) _ _ _)); (fail_if_success (with_reducible show LCg.CompRest _ _ _ _ _ _ _ _ _ _ _ _ _ _ _ _ _ _ _)); (fail_if_success (with_reducible show LCt.CompRestT _ _ _ _ _ _ _ _ _ _ _ _ _ _ _ _ _ _ _ _)); first | walk1 | (dsimp only; walk1)) | fail "no step"))
  refine item_strTab (TabAt.ofNews N11 (by k_mem) hlo hod hfd) hl2 fun v5 hv5 => ?_
  obtain ⟨g2, rfl⟩ := PyProof.V.Flat.str_inv hv5
  (repeat' (first | (k_unfold; (try dsimp only)) | ((fail_if_success (with_reducible show wpAny _ _ (PySem.eval (Expr.ListComp _ _ _ _) _) _ _ _)); (fail_if_success (with_reducible show wpAny _ _ (PySem.call (Value.ref _) _) _ _ _)); (fail_if_success (with_reducible show wpAny _ _ (subscriptTail _ _ (Value.ref _) (Value.int _ _)) _ _ _)); (fail_if_success (with_reducible show wpAny _ _ (subscriptTail _ _ (Value.ref _) (Value.str _ _)) _ _ _)); (fail_if_success (with_reducible show LCg.CompRest _ _ _ _ _ _ _ _ _ _ _ _ _ _ _ _ _ _ _)); (fail_if_success (with_reducible show LCt.CompRestT _ _ _ _ _ _ _ _ _ _ _ _ _ _ _ _ _ _ _ _)); first | walk1 | (dsimp only; walk1)) | fail "no step"))
  rename Fr g L _ _ => F12
  rename News g L _ _ => N12
  rename _ ∧ _ => lq
  refine compEnd_new F12 N12 off lq (.inr ⟨_, by k_mem, rfl, _, rfl⟩) ?_
  clear F12 N12 lq off ne hv hC hx hv5
  refine LCg.CompRest.zero ?_
  intro Dl h13 q13 F13 N13 off13
  refine ne_pairs (News.get N13 (by k_mem)) (News.get N13 (.head _)) (News.get N13 (by k_mem)) (News.get N13 (by k_mem)) (News.get N13 (by k_mem)) (News.get N13 (by k_mem)) (News.get N13 (by k_mem)) (News.get N13 (by k_mem)) A0 A1' A2' B0 B1 B2 (of_decide_eq_true rfl) ?_
  (repeat' (first | (k_unfold; (try dsimp only)) | ((fail_if_success (with_reducible show wpAny _ _ (PySem.eval (Expr.ListComp _ _ _ _) _) _ _ _)); (fail_if_success (with_reducible show wpAny _ _ (PySem.call (Value.ref _) _) _ _ _)); (fail_if_success (with_reducible show wpAny _ _ (subscriptTail _ _ (Value.ref _) (Value.int _ _)) _ _ _)); (fail_if_success (with_reducible show wpAny _ _ (subscriptTail _ _ (Value.ref _) (Value.str _ _)) _ _ _)); (fail_if_success (with_reducible show LCg.CompRest _ _ _ _ _ _ _ _ _ _ _ _ _ _ _ _ _ _ _)); (fail_if_success (with_reducible show LCt.CompRestT _ _ _ _ _ _ _ _ _ _ _ _ _ _ _ _ _ _ _ _)); first | walk1 | (dsimp only; walk1)) | fail "no step"))
  refine cont _ _ F13 fun p hp => N13 p ?_
  rcases List.mem_cons.mp hp with rfl | hp
  · k_mem
  rcases List.mem_cons.mp hp with rfl | hp
  · k_mem
  rcases List.mem_cons.mp hp with rfl | hp
  · k_mem
  rcases List.mem_cons.mp hp with rfl | hp
  · k_mem
  · iterate 21 refine List.Mem.tail _ ?_
    exact hp
end
end
section
open PySem PySem.W PyProof.Rows PySem.Calls PySem.Spec
noncomputable abbrev sysL : List Str := [Str.ofString "SunOS", Str.ofString "SunOS ", Str.ofString "win32", Str.ofString "unknown", Str.ofString "SunOS", Str.ofString "win16", Str.ofString "Linux (x)"]
noncomputable abbrev verL : List Str := [Str.ofString "", Str.ofString "a", Str.ofString "unknown", Str.ofString "say \"hi\", b", Str.ofString "c\\d", Str.ofString "#1 (SMP); v:2", Str.ofString " ", Str.ofString "ununknownknown/"]
noncomputable abbrev mDF (D df : Addr) (r : Str → Option Value) : Str → Option Value := fun y => if y = Str.ofString "due" then some (.ref D) else if y = Str.ofString "facts" then some (.ref df) else r y
theorem fr_mDF {g h : Heap} {L D df : Addr} {m : Str → Option Value} (F : Fr g L h m) (h1 : m (Str.ofString "due") = some (.ref D)) (h2 : m (Str.ofString "facts") = some (.ref df)) : ∃ r, Fr g L h (mDF D df r) := by
  refine ⟨m, ?_⟩
  have e : m = mDF D df m := by
    funext y
    unfold mDF
    by_cases e1 : y = Str.ofString "due"
    · rw [if_pos e1, e1, h1]
    · by_cases e2 : y = Str.ofString "facts"
      · rw [if_neg e1, if_pos e2, e2, h2]
      · rw [if_neg e1, if_neg e2]
  exact e ▸ F
noncomputable abbrev trip (x : Str × Str × Str) (t1 t2 t3 : Tok) (n : Nat) : Obj := tupO #[.str x.1 t1, .str x.2.1 t2, .str x.2.2 t3] n
section
variable {w : World} {cn : Str} {cs : Scope} {L0 a : Addr} {ccd : Value} {L : Addr} {g : Heap} {s : Shared} {Q : Flow → Shared → Prop} {E : Value → Shared → Prop} {mean : ExcName → Option Value} {mg mb : Str → Option Value} {base : Heap}
  {lv ly df Dt Do : Addr} {r : Str → Option Value} {of : Obj} {ps : Array Value} {news : List (Addr × Obj)} {kind which : Int} {uk uw tm tr : Tok} {vv vy : List Value} {nv ny : Nat} {sys rel ver : Str} {mv : Option Str}
set_option maxRecDepth 100000 in
set_option maxHeartbeats 2000000 in
theorem m_due (G' : G2 w mean mg mb (A1 cn cs L0 a ccd) base [envOf cn cs L0 a ccd] g) (F : Fr g L s.heap (fun y => if y = Str.ofString "order" then some (.ref Do) else if y = Str.ofString "facts" then some (.ref df) else mM Dt (mvV mv tm) (.str rel tr) (.int kind uk) (.int which uw) ly lv r y))
    (N : News g L s.heap ((df, of) :: (lv, listOf vv.toArray nv) :: (ly, listOf vy.toArray ny) :: (23, tabObj ps) :: news))
    (hvy : StrsAre vy sysL) (hvv : StrsAre vv verL) (b1 : 0 ≤ kind ∧ kind < 7) (b6 : 0 ≤ which ∧ which < 8) (hsys : sysL[kind.toNat]? = some sys) (hver : verL[which.toNat]? = some ver)
    (cont : ∀ (h : Heap) (tk : Nat) (D : Addr) (t1 t2 t3 : Tok) (n : Nat) (r' : Str → Option Value), Fr g L h (mDF D df r') →
      News g L h ((D, trip (al3 sys rel mv ver) t1 t2 t3 n) :: (df, of) :: (23, tabObj ps) :: news) →
      wpC (model PP w) (mA cn cs L0 a ccd L) (execs (mBody.drop 13) (mEnv L)) Q E { s with heap := h, toks := tk }) :
    wpC (model PP w) (mA cn cs L0 a ccd L) (execs (mBody.drop 12) (mEnv L)) Q E s := by
  (w_top off; k_with_none; (have hz9 : PySem.Challenge.rw_mj0138_01 = PySem.Challenge.rw_mj0138_01 ∧ hd.heap_39 = hd.heap_39 := by (k_fill; exact ⟨rfl, rfl⟩)); clear hz9)
  obtain ⟨B', X', T', XB', TB', D'⟩ := id G'
  clear XB' TB' D'
  refine wpC_execs_later ?_
  (repeat' (first | (k_unfold; (try dsimp only)) | ((fail_if_success (with_reducible show wpAny _ _ (PySem.eval (Expr.ListComp _ _ _ _) _) _ _ _)); (fail_if_success (with_reducible show wpAny _ _ (PySem.call (Value.ref _) _) _ _ _)); (fail_if_success (with_reducible show wpAny _ _ (subscriptTail _ _ (Value.ref _) (Value.int _ _)) _ _ _)); (fail_if_success (with_reducible show wpAny _ _ (subscriptTail _ _ (Value.ref _) (Value.str _ _)) _ _ _)); (fail_if_success (with_reducible show LCg.CompRest _ _ _ _ _ _ _ _ _ _ _ _ _ _ _ _ _ _ _)); (fail_if_success (with_reducible show LCt.CompRestT _ _ _ _ _ _ _ _ _ _ _ _ _ _ _ _ _ _ _ _)); first | walk1 | (dsimp only; walk1)) | fail "no step"))
  rename Fr g L _ _ => F1
  rename News g L _ _ => N1
  refine item_sa (xs := sysL) (News.isList N1 (by k_mem)) hvy b1.1 (by simpa using b1.2) (by omega) fun sys' ts hsys' => ?_
  obtain rfl : sys = sys' := Option.some.inj (hsys.symm.trans hsys')
  (repeat' (first | (k_unfold; (try dsimp only)) | ((fail_if_success (with_reducible show wpAny _ _ (PySem.eval (Expr.ListComp _ _ _ _) _) _ _ _)); (fail_if_success (with_reducible show wpAny _ _ (PySem.call (Value.ref _) _) _ _ _)); (fail_if_success (with_reducible show wpAny _ _ (subscriptTail _ _ (Value.ref _) (Value.int _ _)) _ _ _)); (fail_if_success (with_reducible show wpAny _ _ (subscriptTail _ _ (Value.ref _) (Value.str _ _)) _ _ _)); (fail_if_success (with_reducible show LCg.CompRest _ _ _ _ _ _ _ _ _ _ _ _ _ _ _ _ _ _ _)); (fail_if_success (with_reducible show LCt.CompRestT _ _ _ _ _ _ _ _ _ _ _ _ _ _ _ _ _ _ _ _)); first | walk1 | (dsimp only; walk1)) | fail "no step"))
  rename Fr g L _ _ => F2
  rename News g L _ _ => N2
  refine item_sa (xs := verL) (News.isList N2 (by k_mem)) hvv b6.1 (by simpa using b6.2) (by omega) fun ver' tv hver' => ?_
  obtain rfl : ver = ver' := Option.some.inj (hver.symm.trans hver')
  (repeat' (first | (k_unfold; (try dsimp only)) | ((fail_if_success (with_reducible show wpAny _ _ (PySem.eval (Expr.ListComp _ _ _ _) _) _ _ _)); (fail_if_success (with_reducible show wpAny _ _ (PySem.call (Value.ref _) _) _ _ _)); (fail_if_success (with_reducible show wpAny _ _ (subscriptTail _ _ (Value.ref _) (Value.int _ _)) _ _ _)); (fail_if_success (with_reducible show wpAny _ _ (subscriptTail _ _ (Value.ref _) (Value.str _ _)) _ _ _)); (fail_if_success (with_reducible show LCg.CompRest _ _ _ _ _ _ _ _ _ _ _ _ _ _ _ _ _ _ _)); (fail_if_success (with_reducible show LCt.CompRestT _ _ _ _ _ _ _ _ _ _ _ _ _ _ _ _ _ _ _ _)); first | walk1 | (dsimp only; walk1)) | fail "no step"))
  rename Fr g L _ _ => F3
  rename News g L _ _ => N3
  refine ct_alias w sys rel ver mv _ _ _ _ mean mg mb _ _ _ _ _ _ _ _ _ _ _ _ _ _ _ B' F3 X' N3 T' rfl trivial ?_
  intro D t1 t2 t3 n h3 tk3 F4 N4 l4
  (repeat' (first | (k_unfold; (try dsimp only)) | ((fail_if_success (with_reducible show wpAny _ _ (PySem.eval (Expr.ListComp _ _ _ _) _) _ _ _)); (fail_if_success (with_reducible show wpAny _ _ (PySem.call (Value.ref _) _) _ _ _)); (fail_if_success (with_reducible show wpAny _ _ (subscriptTail _ _ (Value.ref _) (Value.int _ _)) _ _ _)); (fail_if_success (with_reducible show wpAny _ _ (subscriptTail _ _ (Value.ref _) (Value.str _ _)) _ _ _)); (fail_if_success (with_reducible show LCg.CompRest _ _ _ _ _ _ _ _ _ _ _ _ _ _ _ _ _ _ _)); (fail_if_success (with_reducible show LCt.CompRestT _ _ _ _ _ _ _ _ _ _ _ _ _ _ _ _ _ _ _ _)); first | walk1 | (dsimp only; walk1)) | fail "no step"))
  rename Fr g L _ _ => F5
  rename News g L _ _ => N5
  obtain ⟨r', F6⟩ := fr_mDF (D := D) (df := df) F5 rfl rfl
  refine cont _ _ D t1 t2 t3 n r' F6 fun p hp => N5 p ?_
  rcases List.mem_cons.mp hp with rfl | hp
  · exact .head _
  rcases List.mem_cons.mp hp with rfl | hp
  · exact .tail _ (.head _)
  · exact .tail _ (.tail _ (.tail _ (.tail _ hp)))
end
end
section
open PySem PySem.W PyProof.Rows PySem.Calls PySem.Spec
theorem ne23 {g h : Heap} {L D : Addr} {led : List (Addr × Obj)} {ps vs : Array Value} {n : Nat} (N : News g L h led) (h1 : (D, tupO vs n) ∈ led) (h2 : (23, tabObj ps) ∈ led) : D ≠ 23 := fun e => by
  have a := (N _ h1).1
  have b := (N _ h2).1
  dsimp only at a b
  rw [e, b] at a
  injection a with a
  exact absurd (congrArg (fun o => o.cls) a) (by simp [tabObj, tupO])
theorem fr_mND {g h : Heap} {L D : Addr} {x : Str} {t : Tok} {m : Str → Option Value} (F : Fr g L h m) (h1 : m (Str.ofString "name") = some (.str x t)) (h2 : m (Str.ofString "due") = some (.ref D)) :
    ∃ r : Str → Option Value, Fr g L h (fun y => if y = Str.ofString "name" then some (.str x t) else if y = Str.ofString "due" then some (.ref D) else r y) := by
  refine ⟨m, ?_⟩
  have e : m = (fun y => if y = Str.ofString "name" then some (.str x t) else if y = Str.ofString "due" then some (.ref D) else m y) := by
    funext y
    by_cases e1 : y = Str.ofString "name"
    · rw [if_pos e1, e1, h1]
    · by_cases e2 : y = Str.ofString "due"
      · rw [if_neg e1, if_pos e2, e2, h2]
      · rw [if_neg e1, if_neg e2]
  exact e ▸ F
section
variable {w : World} {cn : Str} {cs : Scope} {L0 a : Addr} {ccd : Value} {L : Addr} {g : Heap} {s : Shared} {Q : Flow → Shared → Prop} {E : Value → Shared → Prop} {mean : ExcName → Option Value} {mg mb : Str → Option Value} {base : Heap}
  {df D : Addr} {r : Str → Option Value} {of : Obj} {ps : Array Value} {news : List (Addr × Obj)} {t1 t2 t3 : Tok} {n : Nat} {sys rel ver : Str} {al : Str × Str × Str}
theorem def21 (w : World) : ∃ o fd, (hd.heap_39 w.params).lookup 21 = some o ∧ o.data = .func fd := ⟨_, _, rfl, rfl⟩
set_option maxRecDepth 100000 in
set_option maxHeartbeats 2000000 in
theorem m_alias (G' : G2 w mean mg mb (A1 cn cs L0 a ccd) base [envOf cn cs L0 a ccd] g) (F : Fr g L s.heap (mDF D df r))
    (N : News g L s.heap ((D, trip al t1 t2 t3 n) :: (df, of) :: (23, tabObj ps) :: news))
    {kf : List (Str × Value)} {FD : List (PyData × PyData)} (hof : of.IsDictOf (strKind PP w) kf) (hff : PyProof.V.FlatPairs PyData.str kf FD) (hlf : (df == sysModules) = false)
    (h1 : PySem.Spec.lookup (PyData.str (Str.ofString "system")) FD = some (.str sys)) (h2 : PySem.Spec.lookup (PyData.str (Str.ofString "release")) FD = some (.str rel)) (h3 : PySem.Spec.lookup (PyData.str (Str.ofString "version")) FD = some (.str ver))
    (hx : sys.length ≤ 100) (hy : rel.length ≤ 100) (hz : ver.length ≤ 100) (hc : ∀ c ∈ rel.cps.toList, c < 128)
    (hi : ¬ (rel.cps.toList < (Str.ofString "5").cps.toList) → ∀ h t n, Txt.split rel (Str.ofString ".") = h :: t → PySem.intText? h = some n → 0 ≤ n ∧ n < 1000) (hs : ∀ h ∈ Txt.split rel (Str.ofString "."), ∀ c ∈ h.cps.toList, c ∈ rel.cps.toList) (hal : sysal sys rel ver = al) (a1 : Asc al.1) (a2 : Asc al.2.1) (a3 : Asc al.2.2)
    (hps : TabOk PO ps) (hG : AllBare s.gens) (hn23 : ∀ p ∈ news, p.1 ≠ 23) (b1 : al.1.length ≤ 100) (b2 : al.2.1.length ≤ 100) (b3 : al.2.2.length ≤ 100)
    (cont : ∀ (g₁ : Heap) (s' : Shared) (ps' : Array Value) (tn : Tok) (r' : Str → Option Value), KtsTurn (([envOf cn cs L0 a ccd] : List Env).filterMap (·.frame)) g g₁ → G2 w mean mg mb (A1 cn cs L0 a ccd) base [envOf cn cs L0 a ccd] g₁ →
      Fr g₁ L s'.heap (fun y => if y = Str.ofString "name" then some (.str (platS al.1 al.2.1 al.2.2) tn) else if y = Str.ofString "due" then some (.ref D) else r' y) →
      News g₁ L s'.heap ((D, trip al t1 t2 t3 n) :: (23, tabObj ps') :: news) → TabOk PO ps' → AllBare s'.gens → s'.os = s.os →
      wpAny (model PP w) (mA cn cs L0 a ccd L) (execs (mBody.drop 16) (mEnv L)) Q E s') :
    wpC (model PP w) (mA cn cs L0 a ccd L) (execs (mBody.drop 13) (mEnv L)) Q E s := by
  (w_top off; k_with_none; (have hz9 : PySem.Challenge.rw_mj0138_01 = PySem.Challenge.rw_mj0138_01 ∧ hd.heap_39 = hd.heap_39 := by (k_fill; exact ⟨rfl, rfl⟩)); clear hz9)
  obtain ⟨B', X', T', XB', TB', D'⟩ := id G'
  clear XB' TB' D'
  refine wpC_execs_first ?_
  refine wpC_Assign_Name ?_
  refine wpC_Call_Name ?_
  (repeat' (first | (k_unfold; (try dsimp only)) | ((fail_if_success (with_reducible show wpAny _ _ (PySem.eval (Expr.ListComp _ _ _ _) _) _ _ _)); (fail_if_success (with_reducible show wpAny _ _ (PySem.call (Value.ref _) _) _ _ _)); (fail_if_success (with_reducible show wpAny _ _ (subscriptTail _ _ (Value.ref _) (Value.int _ _)) _ _ _)); (fail_if_success (with_reducible show wpAny _ _ (subscriptTail _ _ (Value.ref _) (Value.str _ _)) _ _ _)); (fail_if_success (with_reducible show LCg.CompRest _ _ _ _ _ _ _ _ _ _ _ _ _ _ _ _ _ _ _)); (fail_if_success (with_reducible show LCt.CompRestT _ _ _ _ _ _ _ _ _ _ _ _ _ _ _ _ _ _ _ _)); first | walk1 | (dsimp only; walk1)) | fail "no step"))
  refine wpC_callWith_fun3 ?_
  (repeat' (first | (k_unfold; (try dsimp only)) | ((fail_if_success (with_reducible show wpAny _ _ (PySem.eval (Expr.ListComp _ _ _ _) _) _ _ _)); (fail_if_success (with_reducible show wpAny _ _ (PySem.call (Value.ref _) _) _ _ _)); (fail_if_success (with_reducible show wpAny _ _ (subscriptTail _ _ (Value.ref _) (Value.int _ _)) _ _ _)); (fail_if_success (with_reducible show wpAny _ _ (subscriptTail _ _ (Value.ref _) (Value.str _ _)) _ _ _)); (fail_if_success (with_reducible show LCg.CompRest _ _ _ _ _ _ _ _ _ _ _ _ _ _ _ _ _ _ _)); (fail_if_success (with_reducible show LCt.CompRestT _ _ _ _ _ _ _ _ _ _ _ _ _ _ _ _ _ _ _ _)); first | walk1 | (dsimp only; walk1)) | fail "no step"))
  rename Fr g L _ _ => F1
  rename News g L _ _ => N1
  refine item_strTab (TabAt.ofNews N1 (by k_mem) hlf hof hff) h1 fun v5 hv5 => ?_
  obtain ⟨t5, rfl⟩ := PyProof.V.Flat.str_inv hv5
  (repeat' (first | (k_unfold; (try dsimp only)) | ((fail_if_success (with_reducible show wpAny _ _ (PySem.eval (Expr.ListComp _ _ _ _) _) _ _ _)); (fail_if_success (with_reducible show wpAny _ _ (PySem.call (Value.ref _) _) _ _ _)); (fail_if_success (with_reducible show wpAny _ _ (subscriptTail _ _ (Value.ref _) (Value.int _ _)) _ _ _)); (fail_if_success (with_reducible show wpAny _ _ (subscriptTail _ _ (Value.ref _) (Value.str _ _)) _ _ _)); (fail_if_success (with_reducible show LCg.CompRest _ _ _ _ _ _ _ _ _ _ _ _ _ _ _ _ _ _ _)); (fail_if_success (with_reducible show LCt.CompRestT _ _ _ _ _ _ _ _ _ _ _ _ _ _ _ _ _ _ _ _)); first | walk1 | (dsimp only; walk1)) | fail "no step"))
  rename Fr g L _ _ => F2
  rename News g L _ _ => N2
  refine item_strTab (TabAt.ofNews N2 (by k_mem) hlf hof hff) h2 fun v5 hv5 => ?_
  obtain ⟨t6, rfl⟩ := PyProof.V.Flat.str_inv hv5
  (repeat' (first | (k_unfold; (try dsimp only)) | ((fail_if_success (with_reducible show wpAny _ _ (PySem.eval (Expr.ListComp _ _ _ _) _) _ _ _)); (fail_if_success (with_reducible show wpAny _ _ (PySem.call (Value.ref _) _) _ _ _)); (fail_if_success (with_reducible show wpAny _ _ (subscriptTail _ _ (Value.ref _) (Value.int _ _)) _ _ _)); (fail_if_success (with_reducible show wpAny _ _ (subscriptTail _ _ (Value.ref _) (Value.str _ _)) _ _ _)); (fail_if_success (with_reducible show LCg.CompRest _ _ _ _ _ _ _ _ _ _ _ _ _ _ _ _ _ _ _)); (fail_if_success (with_reducible show LCt.CompRestT _ _ _ _ _ _ _ _ _ _ _ _ _ _ _ _ _ _ _ _)); first | walk1 | (dsimp only; walk1)) | fail "no step"))
  rename Fr g L _ _ => F3
  rename News g L _ _ => N3
  refine item_strTab (TabAt.ofNews N3 (by k_mem) hlf hof hff) h3 fun v5 hv5 => ?_
  obtain ⟨t7, rfl⟩ := PyProof.V.Flat.str_inv hv5
  (repeat' (first | (k_unfold; (try dsimp only)) | ((fail_if_success (with_reducible show wpAny _ _ (PySem.eval (Expr.ListComp _ _ _ _) _) _ _ _)); (fail_if_success (with_reducible show wpAny _ _ (PySem.call (Value.ref _) _) _ _ _)); (fail_if_success (with_reducible show wpAny _ _ (subscriptTail _ _ (Value.ref _) (Value.int _ _)) _ _ _)); (fail_if_success (with_reducible show wpAny _ _ (subscriptTail _ _ (Value.ref _) (Value.str _ _)) _ _ _)); (fail_if_success (with_reducible show LCg.CompRest _ _ _ _ _ _ _ _ _ _ _ _ _ _ _ _ _ _ _)); (fail_if_success (with_reducible show LCt.CompRestT _ _ _ _ _ _ _ _ _ _ _ _ _ _ _ _ _ _ _ _)); first | walk1 | (dsimp only; walk1)) | fail "no step"))
  obtain ⟨o8, fd8, ho8, hd8⟩ := def21 w
  refine ⟨⟨o8, fd8, F3.keep _ _ (X' _ _ ho8), hd8⟩, ?_⟩
  refine ct_sysalias w sys rel ver _ _ _ hx hy hz hc hi hs mean mg mb _ _ _ _ _ _ _ _ _ _ _ _ _ _ _ G' F3 N3 rfl ?_
  rw [hal]
  intro Da u1 u2 u3 k g₁ h8 tk8 hP F4 N4
  obtain ⟨hT, G1⟩ := hP
  clear B' X' T'
  obtain ⟨B', X', T', XB', TB', D'⟩ := id G1
  clear XB' TB' D' F3 N3
  dsimp only
  (repeat' (first | (k_unfold; (try dsimp only)) | ((fail_if_success (with_reducible show wpAny _ _ (PySem.eval (Expr.ListComp _ _ _ _) _) _ _ _)); (fail_if_success (with_reducible show wpAny _ _ (PySem.call (Value.ref _) _) _ _ _)); (fail_if_success (with_reducible show wpAny _ _ (subscriptTail _ _ (Value.ref _) (Value.int _ _)) _ _ _)); (fail_if_success (with_reducible show wpAny _ _ (subscriptTail _ _ (Value.ref _) (Value.str _ _)) _ _ _)); (fail_if_success (with_reducible show LCg.CompRest _ _ _ _ _ _ _ _ _ _ _ _ _ _ _ _ _ _ _)); (fail_if_success (with_reducible show LCt.CompRestT _ _ _ _ _ _ _ _ _ _ _ _ _ _ _ _ _ _ _ _)); first | walk1 | (dsimp only; walk1)) | fail "no step"))
  rename Fr g₁ L _ _ => F5
  rename News g₁ L _ _ => N5
  refine ne_tup3 N5 (.head _) (.tail _ (.head _)) a1 a2 a3 (of_decide_eq_true rfl) ?_
  (repeat' (first | (k_unfold; (try dsimp only)) | ((fail_if_success (with_reducible show wpAny _ _ (PySem.eval (Expr.ListComp _ _ _ _) _) _ _ _)); (fail_if_success (with_reducible show wpAny _ _ (PySem.call (Value.ref _) _) _ _ _)); (fail_if_success (with_reducible show wpAny _ _ (subscriptTail _ _ (Value.ref _) (Value.int _ _)) _ _ _)); (fail_if_success (with_reducible show wpAny _ _ (subscriptTail _ _ (Value.ref _) (Value.str _ _)) _ _ _)); (fail_if_success (with_reducible show LCg.CompRest _ _ _ _ _ _ _ _ _ _ _ _ _ _ _ _ _ _ _)); (fail_if_success (with_reducible show LCt.CompRestT _ _ _ _ _ _ _ _ _ _ _ _ _ _ _ _ _ _ _ _)); first | walk1 | (dsimp only; walk1)) | fail "no step"))
  rename Fr g₁ L _ _ => F6
  rename News g₁ L _ _ => N6
  have N7 : News g₁ L _ ([(Da, trip al u1 u2 u3 k), (D, trip al t1 t2 t3 n)] ++ (23, tabObj ps) :: news) := fun p hp => N6 p (by
    rcases List.mem_cons.mp hp with rfl | hp
    · exact .head _
    rcases List.mem_cons.mp hp with rfl | hp
    · exact .tail _ (.head _)
    · exact .tail _ (.tail _ (.tail _ hp)))
  refine ct_platform w al.1 al.2.1 al.2.2 _ _ _ b1 b2 b3 mean mg mb _ _ _ _ _ _ _ _ _ _ _ _ _ _ _ _ _ B' F6 X' N7 T' rfl ?_ hn23 hps hG ?_
  · intro p hp
    rcases List.mem_cons.mp hp with rfl | hp
    · exact ne23 N7 (.head _) (.tail _ (.tail _ (.head _)))
    · rw [List.mem_singleton.mp hp]
      exact ne23 N7 (.tail _ (.head _)) (.tail _ (.tail _ (.head _)))
  intro tn s9 ps9 F8 N8 hps9 hG9 hos9
  clear F6 N6 N7
  walk1
  rename Fr g₁ L _ _ => F9
  rename News g₁ L _ _ => N9
  obtain ⟨r', F10⟩ := fr_mND (D := D) F9 rfl rfl
  exact cont g₁ _ ps9 tn r' hT G1 F10 (fun p hp => N9 p (.tail _ hp)) hps9 hG9 hos9
end
end
section
open PySem PySem.W PyProof.Rows PySem.Calls PySem.Spec
section
variable {w : World} {A : Around} {E : Value → Shared → Prop} {s : Shared} {g : Heap} {L ax : Addr} {m : Str → Option Value} {env : Env} {its : Array Value} {k : Nat}
/-- where a tested comprehension over a tuple of the ledger begins -/
noncomputable def TupSrc (w : World) (A : Around) (g : Heap) (L : Addr) (m : Str → Option Value) (env : Env) (ct elt : Expr) (x : Str) (scope : Scope) (cl : List (Str × Addr)) (Q : Value → Shared → Prop) (xv : Value) (s₁ : Shared) : Prop :=
  ∃ (ax : Addr) (its : Array Value) (k : Nat) (news : List (Addr × Obj)), xv = .ref ax ∧ A.handled = none ∧ Fr g L s₁.heap m ∧ News g L s₁.heap news ∧ (ax, tupO its k) ∈ news ∧ its.size ≤ sizeLine ∧
    ∀ h, LCt.CompRestT PP w A g L m env ct elt x scope cl { s₁ with heap := h } (fun nw => (ax, tupO its k) ∈ nw) (fun i v => its[i]? = some v) (LCg.FinE g L m { s₁ with heap := h } Q) its.size 0 [] news
theorem tup_there {h : Heap} {news : List (Addr × Obj)} (N : News g L h news) (hm : (ax, tupO its k) ∈ news) : h.IsTuple ax its := ⟨_, (N _ hm).1, rfl, _, rfl⟩
theorem comp_tup {ct elt iter : Expr} {x : Str} {px : Pos} {scope : Scope} {cl : List (Str × Addr)} {pos : Pos} {Q : Value → Shared → Prop} (_F : Fr g L s.heap m)
    (hclos : closureFor scope env = pure cl) (hcell : ∀ y ∈ scope.names, y.2 ≠ .cell) (hkind : scope.kind = .function)
    (hnames : ∀ y ∈ scope.names, y.2 = .local → scope.names.lookup y.1 = some .local) (hx : scope.names.lookup x = some .local)
    (h : wpAny (model PP w) A (eval iter env) (TupSrc w A g L m env ct elt x scope cl Q) E s) (hs : ∀ x, foldedSetIterable iter env x = pure x := by intro _; rfl) :
    wpAny (model PP w) A (eval (.ListComp elt [⟨.Name x px, iter, [ct], 0⟩] scope pos) env) Q E s := by
  rw [eval_ListComp]
  refine wpAny_comprehension_free (use := none) rfl hs hclos hkind hnames (wpAny_mono h (fun xv s₁ hS => ?_) fun _ _ q => q)
  obtain ⟨ax, its, k, news, rfl, hh, F, N, hm, hsz, R⟩ := hS
  have ht := tup_there N hm
  have hax : ax < s₁.heap.objs.size := Heap.lt_size (N _ hm).1
  refine wpAny_pyIter_tuple ht ?_
  generalize hit : ({ cls := .type "tuple_iterator", data := .fields #[.ref ax, .int 0 0] } : Obj) = itO
  have grow : ∀ b o, s₁.heap.get? b = some o → (s₁.heap.push itO).get? b = some o := fun b o q => Heap.get?_push_of_some _ q
  have W := Walks.tuple (prog := PP) (w := w) hh s₁.heap.objs.size ax (Nat.ne_of_lt hax) its
  have hst : ∀ i (h h' : Heap) (o : Obj) (nw : List (Addr × Obj)), (h.IsTupleIter s₁.heap.objs.size ax i ∧ h.IsTuple ax its) → h.get? s₁.heap.objs.size = some o → h'.get? s₁.heap.objs.size = some o → (∀ b o, g.get? b = some o → h'.get? b = some o) → News g L h' nw → (ax, tupO its k) ∈ nw →
      (h'.IsTupleIter s₁.heap.objs.size ax i ∧ h'.IsTuple ax its) := by
    intro i h h' o nw ⟨st1, _⟩ q1 q2 _ N' hm'
    refine ⟨?_, tup_there N' hm'⟩
    obtain ⟨o', q3, r⟩ := st1
    rw [q1] at q3
    cases q3
    exact ⟨o, q2, r⟩
  refine LCt.block_T W hsz (fun i h st => let ⟨⟨o, q, _⟩, _⟩ := st; ⟨o, q⟩) hst hcell hkind hx ⟨⟨itO, Heap.get?_push_size _ (by rw [← hit]; rfl), by rw [← hit], by rw [← hit]; rfl⟩, ht.push _⟩ (fun b hb => ?_) (F.keeps grow) (N.grown grow) (Nat.ne_of_lt F.ns.lt) (next_is_new F)
    (fun p hp => Nat.ne_of_lt (Heap.lt_size (N p hp).1)) hm (R _) ?_
  · show b < (s₁.heap.push itO).objs.size
    rw [Heap.size_push]
    simp only [List.mem_cons, List.not_mem_nil, or_false] at hb
    rcases hb with rfl | rfl
    · exact Nat.lt_succ_self _
    · exact Nat.lt_succ_of_lt hax
  · intro D C h2 tk m2 ys nw F2 N2 o1 hn c0 d0 hCL hDL hCD offC fin
    refine ⟨m2, hn, fun h3 hs3 => fin D h3 tk (F2.change hs3 hCL c0) (fun p hp => ⟨hs3.extBut _ _ ?_ (N2 p hp).1, (N2 p hp).2⟩) o1⟩
    rcases List.mem_cons.mp hp with rfl | hp
    · exact Ne.symm hCD
    · exact offC p hp
end
end
section
open PySem PySem.W PyProof.Rows PySem.Calls PySem.Spec
local macro_rules | `(tactic| walk_at "exec For Name Call cons nil") => `(tactic| (k_here; (rename Fr _ _ _ _ => lF'); (with_unfolding_all refine' For_invVF lF' ?k1 ?k2 ?_; (case k1 => exact rfl); (case k2 => exact rfl); k_whole)))
local macro_rules | `(tactic| walk_at "exec For Name Name cons nil") => `(tactic| (k_here; (rename Fr _ _ _ _ => lF'); (with_unfolding_all refine' For_invVF lF' ?k1 ?k2 ?_; (case k1 => exact rfl); (case k2 => exact rfl); k_whole)))
noncomputable def saidOne (n : Nat) : Nat := if (Builtin.Str.occurrences (Str.ofString "/\\:;\"()") ⟨#[n]⟩ 0 (Str.ofString "/\\:;\"()").length 1).isEmpty = false then 45 else if n = 32 then 95 else n
noncomputable def saidI (l : List Int) : Str := ⟨(l.map fun n => saidOne n.toNat).toArray⟩
theorem said_snoc (pre : List Int) (n : Nat) : saidI (pre ++ [(n : Int)]) = saidI pre ++ ⟨#[saidOne n]⟩ := by
  refine Str.ext' (Array.toList_inj.mp ?_)
  rw [Str.cps_append, Array.toList_append]
  simp [saidI]
theorem said_x {pre : List Int} {x : Str} {n k : Nat} (hI : x = saidI pre) (hl : x.length = pre.length) (h : saidOne n = k) :
    x ++ ⟨#[k]⟩ = saidI (pre ++ [(n : Int)]) ∧ (x ++ ⟨#[k]⟩ : Str).length = (pre ++ [(n : Int)]).length := by
  subst h
  refine ⟨by rw [said_snoc, hI], ?_⟩
  rw [Str.length_append, List.length_append, hl]
  rfl
theorem said_a {pre : List Int} {x : Str} {n : Nat} (hI : x = saidI pre) (hl : x.length = pre.length) (h : (Builtin.Str.occurrences (Str.ofString "/\\:;\"()") ⟨#[n]⟩ 0 (Str.ofString "/\\:;\"()").length 1).isEmpty = false) :
    x ++ Str.ofString "-" = saidI (pre ++ [(n : Int)]) ∧ (x ++ Str.ofString "-").length = (pre ++ [(n : Int)]).length := said_x (k := 45) hI hl (if_pos h)
theorem said_b {pre : List Int} {x : Str} {n : Nat} (hI : x = saidI pre) (hl : x.length = pre.length) (h : (Builtin.Str.occurrences (Str.ofString "/\\:;\"()") ⟨#[n]⟩ 0 (Str.ofString "/\\:;\"()").length 1).isEmpty = true) (h2 : ((⟨#[n]⟩ : Str) == Str.ofString " ") = true) :
    x ++ Str.ofString "_" = saidI (pre ++ [(n : Int)]) ∧ (x ++ Str.ofString "_").length = (pre ++ [(n : Int)]).length := said_x (k := 95) hI hl (by
  have e : n = 32 := by
    have : (⟨#[n]⟩ : Str) = ⟨#[32]⟩ := eq_of_beq h2
    injection this with this; simpa using this
  subst e
  unfold saidOne
  rw [if_neg (by rw [h]; exact Bool.noConfusion), if_pos rfl])
theorem said_c {pre : List Int} {x : Str} {n : Nat} (hI : x = saidI pre) (hl : x.length = pre.length) (h : (Builtin.Str.occurrences (Str.ofString "/\\:;\"()") ⟨#[n]⟩ 0 (Str.ofString "/\\:;\"()").length 1).isEmpty = true) (h2 : ((⟨#[n]⟩ : Str) == Str.ofString " ") = false) :
    x ++ ⟨#[n]⟩ = saidI (pre ++ [(n : Int)]) ∧ (x ++ ⟨#[n]⟩ : Str).length = (pre ++ [(n : Int)]).length := said_x (k := n) hI hl (by
  have e : n ≠ 32 := fun e => by subst e; cases h2
  unfold saidOne
  rw [if_neg (by rw [h]; exact Bool.noConfusion), if_neg e])
set_option maxRecDepth 100000 in
set_option maxHeartbeats 2000000 in
theorem ct_said (w : World) (x : Str) (t1 : Tok) (hx : x.length ≤ 1000) :
    Ct w 75 [Value.str x t1] (fun _ => True) (RetSK (saidI (KStt.codes (Txt.join (Str.ofString "") (Txt.split (Txt.strip x) (Str.ofString "unknown")))))) := by
  (w_top off; k_with_none; (have hz9 : PySem.Challenge.rw_mj0138_01 = PySem.Challenge.rw_mj0138_01 ∧ hd.heap_39 = hd.heap_39 := by (k_fill; exact ⟨rfl, rfl⟩)); clear hz9)
  intro mean mg mb cn cs a ccd cl outer A₀ base h₀ L m news s Q E kB kF0 kX kN0 kT kK kPre hret
  refine wpAny_call ?_
  refine' code_defG (binds := [(Str.ofString "text", Value.str x t1)]) ?k1 ?k2 ?k3 ?k4 ?k5 ?kA ?kF ?kK ?k6 ?k7 ?k8 ?k9 ?kB ?_ ?c2 ?c3 ?c4 ?c5
  ((case kA => exact rfl); (case kF => exact rfl); (case kK => assumption); (case k1 => k_asm); (case k2 => k_asm); (case k3 => k_asm); (case k4 => k_asm); (case k5 => k_asm); (case k6 => k_is); (case k7 => k_is); (case k8 => k_room); (case k9 => exact BindsTo.of_eq rfl); (case c5 => decide); (case kB => exact locs rfl); (case c2 => exact rfl); (case c3 => exact rfl); (case c4 => exact rfl))
  k_whole; intro g' L' h' FG' F' N' B' X' T' GS'; (try dsimp only); (try k_lift B'); (try k_fold)
  w_on
  (repeat' (first | (k_unfold; (try dsimp only)) | ((fail_if_success (with_reducible show wpAny _ _ (pyIter _) _ _ _)); first | walk1 | (dsimp only; walk1)) | fail "no step"))
  rename (List.map _ _ = Txt.split _ _) => hM
  rename StrsAre _ _ => hS
  rename List (Str × Tok) => l9
  have hB : ∀ a ∈ List.map (fun x => x.fst) l9, a.length ≤ (Txt.strip x).length := by assumption
  rw [hM] at hS hB
  have hc := split_count (Txt.strip x) (Str.ofString "unknown")
  have hlen : (Txt.strip x).length ≤ x.length := by assumption
  have hsum : ((Txt.split (Txt.strip x) (Str.ofString "unknown")).map (·.length)).sum ≤ 1002000 := by
    have h1 := sum_le (B := 1000) _ fun a ha => Nat.le_trans (hB a ha) (Nat.le_trans hlen hx)
    have h2 : (Txt.split (Txt.strip x) (Str.ofString "unknown")).length * 1000 ≤ 1002 * 1000 := Nat.mul_le_mul_right _ (by omega)
    omega
  refine' join_list (ys := Txt.split (Txt.strip x) (Str.ofString "unknown")) ?hl ?hi ?hok ?_
  case hl => assumption
  case hi => exact hS
  case hok => show _ + _ * 0 ≤ _; omega
  intro t9 k9
  dsimp only
  rename Fr _ _ _ _ => F1
  rename News _ _ _ _ => N1
  have hjl : (Txt.join (Str.ofString "") (Txt.split (Txt.strip x) (Str.ofString "unknown"))).length ≤ 1002000 := by
    have h1 := StrLaws.join_length_le (Str.ofString "") (Txt.split (Txt.strip x) (Str.ofString "unknown"))
    have h2 : (Txt.split (Txt.strip x) (Str.ofString "unknown")).length * (Str.ofString "").length = 0 := Nat.mul_zero _
    show (Builtin.Str.glued _ _).length ≤ _
    rw [StrLaws.glued_eq_join]
    omega
  generalize hJ : Txt.join (Str.ofString "") (Txt.split (Txt.strip x) (Str.ofString "unknown")) = J at hret hjl ⊢
  have N2 : News _ _ _ news := fun p hp => N1 p (.tail _ hp)
  clear N1 hS hM hB hc hsum
  refine' KStt.kst_text (σ := Str × Tok) (fun _ => news) (fun c => [(Str.ofString "said", .str c.1 c.2)]) (fun _ => True) [] (fun pre c => c.1 = saidI pre ∧ c.1.length = pre.length) (Str.ofString "", _) rfl F1 N2 trivial ?kk ?kp ?turn ?done
  case kk => kst_all1
  case kp => exact ⟨rfl, rfl⟩
  case turn =>
    clear F1 N2
    rintro ⟨said, ts⟩ pre post n t u h tk9 own hE hO _ ⟨hI, hl⟩ F1 N1
    have hL : J.length = pre.length + (post.length + 1) := by
      have := congrArg List.length hE
      simpa [KStt.codes_length] using this
    dsimp only [kstB] at *
    try k_fold
    (repeat' (first | (k_unfold; (try dsimp only)) | walk1 | (dsimp only; walk1) | fail "no step"))
    all_goals
      (refine' kst_end ((_, _) : Str × Tok) (by assumption) (by assumption) ?hn ?ho rfl trivial ?hk ?hr ?hp
       case hk => kst_all1
       case hn => exact fun p hp => List.mem_append.mpr (.inl hp)
       case ho => exact fun p hp => List.mem_append.mpr (.inr hp)
       case hr => kst_same
       case hp => first | exact said_a hI hl (by assumption) | exact said_b hI hl (by assumption) (by assumption) | exact said_c hI hl (by assumption) (by assumption))
  case done =>
    clear F1 N2
    rintro ⟨said, ts⟩ u h tk9 _ ⟨hI, hl⟩ F1 N1
    dsimp only [kstB] at *
    rw [KStt.codes_length] at hl
    try k_fold
    (repeat' (first | (k_unfold; (try dsimp only)) | walk1 | (dsimp only; walk1) | fail "no step"))
    refine' endSK hret ?e GS' kN0 ?f1 ?n1 ?l1 ?f ?n ?l
    case f => assumption
    case n => assumption
    case f1 => assumption
    case n1 => assumption
    case l => exact fun _ h => h
    case l1 => exact fun _ h => h
    case e => exact hI.symm
end
section
open PySem PySem.W PyProof.Rows PySem.Calls PySem.Spec
noncomputable def pieces (x : Str) : List Str := (Txt.split x (Str.ofString "-")).filter (fun a => a != Str.ofString "")
noncomputable def foldS (x : Str) : Str := (if (Txt.slice x none (some 1) == Str.ofString "-") = true ∧ pieces x ≠ [] then Str.ofString "-" else Str.ofString "") ++ Txt.join (Str.ofString "-") (pieces x)
theorem pieces_sum {x : Str} (hx : x.length ≤ 1000) (hB : ∀ a ∈ Txt.split x (Str.ofString "-"), a.length ≤ x.length) : ((pieces x).map (·.length)).sum ≤ 1002000 ∧ (pieces x).length ≤ 1002 := by
  have hc := split_count x (Str.ofString "-")
  have h0 : (pieces x).length ≤ (Txt.split x (Str.ofString "-")).length := List.length_filter_le _ _
  have h1 := sum_le (B := 1000) (pieces x) fun a ha => Nat.le_trans (hB a (List.mem_filter.mp ha).1) hx
  have h2 : (pieces x).length * 1000 ≤ 1002 * 1000 := Nat.mul_le_mul_right _ (by omega)
  omega
theorem pieces_join {x : Str} (h : ((pieces x).map (·.length)).sum ≤ 1002000 ∧ (pieces x).length ≤ 1002) : (Txt.join (Str.ofString "-") (pieces x)).length ≤ 1003002 := by
  have h1 := StrLaws.join_length_le (Str.ofString "-") (pieces x)
  have h2 : (Str.ofString "-").length = 1 := rfl
  rw [h2] at h1
  show (Builtin.Str.glued _ _).length ≤ _
  rw [StrLaws.glued_eq_join]
  omega
set_option maxRecDepth 100000 in
set_option maxHeartbeats 2000000 in
theorem ct_fold (w : World) (x : Str) (t1 : Tok) (hx : x.length ≤ 1000) (hA : ∀ p ∈ Txt.split x (Str.ofString "-"), Asc p) :
    Ct w 80 [Value.str x t1] (fun _ => True) (RetS (foldS x)) := by
  (w_top off; k_with_none; (have hz9 : PySem.Challenge.rw_mj0138_01 = PySem.Challenge.rw_mj0138_01 ∧ hd.heap_39 = hd.heap_39 := by (k_fill; exact ⟨rfl, rfl⟩)); clear hz9)
  intro mean mg mb cn cs a ccd cl outer A₀ base h₀ L m news s Q E kB kF0 kX kN0 kT kK kPre hret
  refine wpAny_call ?_
  refine' code_def (binds := [(Str.ofString "joined", Value.str x t1)]) ?k1 ?k2 ?k3 ?k4 ?k5 ?kA ?kF ?kK ?k6 ?k7 ?k8 ?k9 ?kB ?_ ?c2 ?c3 ?c4 ?c5
  ((case kA => exact rfl); (case kF => exact rfl); (case kK => assumption); (case k1 => k_asm); (case k2 => k_asm); (case k3 => k_asm); (case k4 => k_asm); (case k5 => k_asm); (case k6 => k_is); (case k7 => k_is); (case k8 => k_room); (case k9 => exact BindsTo.of_eq rfl); (case c5 => decide); (case kB => exact locs rfl); (case c2 => exact rfl); (case c3 => exact rfl); (case c4 => exact rfl))
  k_whole; intro g' L' h' FG' F' N' B' X' T'; (try dsimp only); (try k_lift B'); (try k_fold)
  (repeat' (first | (k_unfold; (try dsimp only)) | ((fail_if_success (with_reducible show wpAny _ _ (PySem.call (Value.builtin "str.join") _) _ _ _)); first | walk1 | (dsimp only; walk1)) | fail "no step"))
  all_goals (
    rename (List.map _ _ = Txt.split _ _) => hM
    rename List (Str × Tok) => l9
    have hB : ∀ a ∈ List.map (fun x => x.fst) l9, a.length ≤ x.length := by assumption
    rename CarriedAll _ _ => hC
    rw [hM] at hB hC
    have hS := StrsAre.ofCarried hC
    have hsum := pieces_sum hx hB
    have hjl := pieces_join hsum
    have hAs : ∀ p ∈ pieces x, Asc p := fun p hp => hA p (List.mem_filter.mp hp).1)
  · rename Fr _ _ _ _ => F1
    rename News _ _ _ _ => N1
    refine' ne_strs (us := pieces x) (vs := []) (News.isList N1 (.tail _ (.head _))) (News.isList (items := ([] : List Value).toArray) N1 (.head _)) hS .nil hAs (fun _ h => nomatch h) ?hu ?_
    case hu => exact of_decide_eq_true rfl
    refine wpAny_truthy_bool ?_
    by_cases hp : pieces x = []
    · rw [show (!decide (pieces x = [])) = false by simp [hp]]
      (repeat' (first | (k_unfold; (try dsimp only)) | ((fail_if_success (with_reducible show wpAny _ _ (PySem.call (Value.builtin "str.join") _) _ _ _)); first | walk1 | (dsimp only; walk1)) | fail "no step"))
      refine' join_list (ys := pieces x) ?hl ?hi ?hok ?_
      case hl => exact News.isList (by k_asm) (.tail _ (.head _))
      case hi => exact hS
      case hok => show _ + _ * 1 ≤ _; omega
      intro t9 k9
      (repeat' (first | (k_unfold; (try dsimp only)) | walk1 | (dsimp only; walk1) | fail "no step"))
      rename Fr h₀ _ _ _ => kF
      rename News h₀ _ _ _ => kN
      exact endS hret (by unfold foldS; rw [if_neg (fun q => q.2 hp)]) kF kN fun p hp => .tail _ (.tail _ (.tail _ hp))
    · rw [show (!decide (pieces x = [])) = true by simp [hp]]
      (repeat' (first | (k_unfold; (try dsimp only)) | ((fail_if_success (with_reducible show wpAny _ _ (PySem.call (Value.builtin "str.join") _) _ _ _)); first | walk1 | (dsimp only; walk1)) | fail "no step"))
      refine' join_list (ys := pieces x) ?hl ?hi ?hok ?_
      case hl => exact News.isList (by k_asm) (.tail _ (.head _))
      case hi => exact hS
      case hok => show _ + _ * 1 ≤ _; omega
      intro t9 k9
      (repeat' (first | (k_unfold; (try dsimp only)) | walk1 | (dsimp only; walk1) | fail "no step"))
      rename Fr h₀ _ _ _ => kF
      rename News h₀ _ _ _ => kN
      have hb : (Txt.slice x none (some 1) == Str.ofString "-") = true := by assumption
      exact endS hret (by unfold foldS; rw [if_pos ⟨hb, hp⟩]) kF kN fun p hp => .tail _ (.tail _ (.tail _ hp))
  · refine' join_list (ys := pieces x) ?hl ?hi ?hok ?_
    case hl => exact News.isList (by k_asm) (.head _)
    case hi => exact hS
    case hok => show _ + _ * 1 ≤ _; omega
    intro t9 k9
    (repeat' (first | (k_unfold; (try dsimp only)) | walk1 | (dsimp only; walk1) | fail "no step"))
    rename Fr h₀ _ _ _ => kF
    rename News h₀ _ _ _ => kN
    have hb : (Txt.slice x none (some 1) == Str.ofString "-") = false := by assumption
    exact endS hret (by unfold foldS; rw [if_neg (fun q => by rw [hb] at q; cases q.1)]) kF kN fun p hp => .tail _ (.tail _ hp)
end
section
open PySem PySem.W PyProof.Rows PySem.Calls PySem.Spec
noncomputable def saidT (x : Str) : Str := saidI (KStt.codes (Txt.join (Str.ofString "") (Txt.split (Txt.strip x) (Str.ofString "unknown"))))
noncomputable def saidL (al : Str × Str × Str) : List Str := ([al.1, al.2.1, al.2.2].filter fun a => a != Str.ofString "").map saidT
noncomputable def sdl (l : List Str) : List Str := (l.filter fun a => a != Str.ofString "").map saidT
theorem sdl_snoc {l : List Str} {x : Str} : sdl (l ++ [x]) = if (x != Str.ofString "") = true then sdl l ++ [saidT x] else sdl l := by
  unfold sdl
  rw [List.filter_append, List.map_append]
  by_cases h : (x != Str.ofString "") = true
  · rw [if_pos h, List.filter_cons, if_pos h]; rfl
  · rw [if_neg h, List.filter_cons, if_neg h, List.filter_nil, List.map_nil, List.append_nil]
section
variable {w : World} {cn : Str} {cs : Scope} {L0 a : Addr} {ccd : Value} {L : Addr} {g : Heap} {s : Shared} {Q : Flow → Shared → Prop} {E : Value → Shared → Prop} {mean : ExcName → Option Value} {mg mb : Str → Option Value} {base : Heap}
  {D : Addr} {r : Str → Option Value} {ps : Array Value} {news : List (Addr × Obj)} {t1 t2 t3 tn : Tok} {n : Nat} {al : Str × Str × Str} {nm : Str}
set_option maxRecDepth 100000 in
set_option maxHeartbeats 2000000 in
theorem m_name (G' : G2 w mean mg mb (A1 cn cs L0 a ccd) base [envOf cn cs L0 a ccd] g) (F : Fr g L s.heap (fun y => if y = Str.ofString "name" then some (.str nm tn) else if y = Str.ofString "due" then some (.ref D) else r y))
    (N : News g L s.heap ((D, trip al t1 t2 t3 n) :: (23, tabObj ps) :: news)) (b1 : al.1.length ≤ 100) (b2 : al.2.1.length ≤ 100) (b3 : al.2.2.length ≤ 100)
    (hnm : nm = foldS (Txt.join (Str.ofString "-") (saidL al))) (hjl : (Txt.join (Str.ofString "-") (saidL al)).length ≤ 1000) (hpl : ∀ p ∈ Txt.split (Txt.join (Str.ofString "-") (saidL al)) (Str.ofString "-"), Asc p) (hsl : ∀ x ∈ saidL al, x.length ≤ 300)
    (cont : ∀ (h : Heap) (tk : Nat) (r' : Str → Option Value), Fr g L h (fun y => if y = Str.ofString "name" then some (.str nm tn) else r' y) → News g L h ((23, tabObj ps) :: news) →
      wpAny (model PP w) (mA cn cs L0 a ccd L) (execs (mBody.drop 17) (mEnv L)) Q E { s with heap := h, toks := tk }) :
    wpAny (model PP w) (mA cn cs L0 a ccd L) (execs (mBody.drop 16) (mEnv L)) Q E s := by
  (w_top off; k_with_none; (have hz9 : PySem.Challenge.rw_mj0138_01 = PySem.Challenge.rw_mj0138_01 ∧ hd.heap_39 = hd.heap_39 := by (k_fill; exact ⟨rfl, rfl⟩)); clear hz9)
  obtain ⟨B', X', T', XB', TB', D'⟩ := id G'
  clear XB' TB' D'
  refine wpAny_execs_cons ?_
  (repeat' (first | (k_unfold; (try dsimp only)) | ((fail_if_success (with_reducible show wpAny _ _ (PySem.eval (Expr.ListComp _ _ _ _) _) _ _ _)); (fail_if_success (with_reducible show wpAny _ _ (PySem.call (Value.ref _) _) _ _ _)); (fail_if_success (with_reducible show wpAny _ _ (subscriptTail _ _ (Value.ref _) (Value.int _ _)) _ _ _)); (fail_if_success (with_reducible show wpAny _ _ (subscriptTail _ _ (Value.ref _) (Value.str _ _)) _ _ _)); (fail_if_success (with_reducible show LCg.CompRest _ _ _ _ _ _ _ _ _ _ _ _ _ _ _ _ _ _ _)); (fail_if_success (with_reducible show LCt.CompRestT _ _ _ _ _ _ _ _ _ _ _ _ _ _ _ _ _ _ _ _)); first | walk1 | (dsimp only; walk1)) | fail "no step"))
  rename Fr g L _ _ => F1
  rename News g L _ _ => N1
  refine comp_tup F1 rfl (by decide) rfl (by decide) rfl ?_
  (repeat' (first | (k_unfold; (try dsimp only)) | ((fail_if_success (with_reducible show wpAny _ _ (PySem.eval (Expr.ListComp _ _ _ _) _) _ _ _)); (fail_if_success (with_reducible show wpAny _ _ (PySem.call (Value.ref _) _) _ _ _)); (fail_if_success (with_reducible show wpAny _ _ (subscriptTail _ _ (Value.ref _) (Value.int _ _)) _ _ _)); (fail_if_success (with_reducible show wpAny _ _ (subscriptTail _ _ (Value.ref _) (Value.str _ _)) _ _ _)); (fail_if_success (with_reducible show LCg.CompRest _ _ _ _ _ _ _ _ _ _ _ _ _ _ _ _ _ _ _)); (fail_if_success (with_reducible show LCt.CompRestT _ _ _ _ _ _ _ _ _ _ _ _ _ _ _ _ _ _ _ _)); first | walk1 | (dsimp only; walk1)) | fail "no step"))
  rename Fr g L _ _ => F2
  rename News g L _ _ => N2
  refine ⟨D, _, _, _, rfl, rfl, F2, N2, .head _, show 3 ≤ sizeLine by decide, fun h5 => ?_⟩
  refine rest_cutN (sdl [al.1]) ?r2 ?s1
  case s1 =>
    intro H
    have hys : StrsAre [] (sdl []) := .nil
    refine LCt.CompRestT.succ ?_
    intro v I oI C oC Dc m2 h11 q11 E' hv hC hx F11 N11 off ne
    obtain rfl : Value.str al.1 t1 = v := Option.some.inj hv
    (repeat' (first | (k_unfold; (try dsimp only)) | ((fail_if_success (with_reducible show wpAny _ _ (PySem.eval (Expr.ListComp _ _ _ _) _) _ _ _)); (fail_if_success (with_reducible show wpAny _ _ (PySem.call (Value.ref _) _) _ _ _)); (fail_if_success (with_reducible show wpAny _ _ (subscriptTail _ _ (Value.ref _) (Value.int _ _)) _ _ _)); (fail_if_success (with_reducible show wpAny _ _ (subscriptTail _ _ (Value.ref _) (Value.str _ _)) _ _ _)); (fail_if_success (with_reducible show LCg.CompRest _ _ _ _ _ _ _ _ _ _ _ _ _ _ _ _ _ _ _)); (fail_if_success (with_reducible show LCt.CompRestT _ _ _ _ _ _ _ _ _ _ _ _ _ _ _ _ _ _ _ _)); first | walk1 | (dsimp only; walk1)) | fail "no step"))
    all_goals (
      rename (al.1 != _) = _ => B9
      first
        | (refine LCg.CompEnd.intro F11 N11 _ (fun p hp => hp) off (.head _) ?_)
        | (refine ct_said w al.1 _ (Nat.le_trans b1 (by decide)) mean mg mb _ _ _ _ _ _ _ _ _ _ _ _ _ _ _ B' F11 X' N11 T' rfl trivial ?_
           intro tw9 h12 q12 _ F12 N12
           k_unfold
           refine LCg.CompEnd.intro F12 N12 _ (fun p hp => hp) off (.head _) ?_)
      refine H _ ?_
      show StrsAre _ (sdl ([] ++ [al.1]))
      rw [sdl_snoc, B9]
      first | exact strs_one hys _ | exact hys)
  case r2 =>
  intro ys hys
  refine rest_cutN (sdl [al.1, al.2.1]) ?r3 ?s2
  case s2 =>
    intro H
    refine LCt.CompRestT.succ ?_
    intro v I oI C oC Dc m2 h11 q11 E' hv hC hx F11 N11 off ne
    obtain rfl : Value.str al.2.1 t2 = v := Option.some.inj hv
    (repeat' (first | (k_unfold; (try dsimp only)) | ((fail_if_success (with_reducible show wpAny _ _ (PySem.eval (Expr.ListComp _ _ _ _) _) _ _ _)); (fail_if_success (with_reducible show wpAny _ _ (PySem.call (Value.ref _) _) _ _ _)); (fail_if_success (with_reducible show wpAny _ _ (subscriptTail _ _ (Value.ref _) (Value.int _ _)) _ _ _)); (fail_if_success (with_reducible show wpAny _ _ (subscriptTail _ _ (Value.ref _) (Value.str _ _)) _ _ _)); (fail_if_success (with_reducible show LCg.CompRest _ _ _ _ _ _ _ _ _ _ _ _ _ _ _ _ _ _ _)); (fail_if_success (with_reducible show LCt.CompRestT _ _ _ _ _ _ _ _ _ _ _ _ _ _ _ _ _ _ _ _)); first | walk1 | (dsimp only; walk1)) | fail "no step"))
    all_goals (
      rename (al.2.1 != _) = _ => B9
      first
        | (refine LCg.CompEnd.intro F11 N11 _ (fun p hp => hp) off (.head _) ?_)
        | (refine ct_said w al.2.1 _ (Nat.le_trans b2 (by decide)) mean mg mb _ _ _ _ _ _ _ _ _ _ _ _ _ _ _ B' F11 X' N11 T' rfl trivial ?_
           intro tw9 h12 q12 _ F12 N12
           k_unfold
           refine LCg.CompEnd.intro F12 N12 _ (fun p hp => hp) off (.head _) ?_)
      refine H _ ?_
      show StrsAre _ (sdl ([al.1] ++ [al.2.1]))
      rw [sdl_snoc, B9]
      first | exact strs_one hys _ | exact hys)
  case r3 =>
  clear hys ys
  intro ys hys
  refine rest_cutN (sdl [al.1, al.2.1, al.2.2]) ?r4 ?s3
  case s3 =>
    intro H
    refine LCt.CompRestT.succ ?_
    intro v I oI C oC Dc m2 h11 q11 E' hv hC hx F11 N11 off ne
    obtain rfl : Value.str al.2.2 t3 = v := Option.some.inj hv
    (repeat' (first | (k_unfold; (try dsimp only)) | ((fail_if_success (with_reducible show wpAny _ _ (PySem.eval (Expr.ListComp _ _ _ _) _) _ _ _)); (fail_if_success (with_reducible show wpAny _ _ (PySem.call (Value.ref _) _) _ _ _)); (fail_if_success (with_reducible show wpAny _ _ (subscriptTail _ _ (Value.ref _) (Value.int _ _)) _ _ _)); (fail_if_success (with_reducible show wpAny _ _ (subscriptTail _ _ (Value.ref _) (Value.str _ _)) _ _ _)); (fail_if_success (with_reducible show LCg.CompRest _ _ _ _ _ _ _ _ _ _ _ _ _ _ _ _ _ _ _)); (fail_if_success (with_reducible show LCt.CompRestT _ _ _ _ _ _ _ _ _ _ _ _ _ _ _ _ _ _ _ _)); first | walk1 | (dsimp only; walk1)) | fail "no step"))
    all_goals (
      rename (al.2.2 != _) = _ => B9
      first
        | (refine LCg.CompEnd.intro F11 N11 _ (fun p hp => hp) off (.head _) ?_)
        | (refine ct_said w al.2.2 _ (Nat.le_trans b3 (by decide)) mean mg mb _ _ _ _ _ _ _ _ _ _ _ _ _ _ _ B' F11 X' N11 T' rfl trivial ?_
           intro tw9 h12 q12 _ F12 N12
           k_unfold
           refine LCg.CompEnd.intro F12 N12 _ (fun p hp => hp) off (.head _) ?_)
      refine H _ ?_
      show StrsAre _ (sdl ([al.1, al.2.1] ++ [al.2.2]))
      rw [sdl_snoc, B9]
      first | exact strs_one hys _ | exact hys)
  case r4 =>
  clear hys ys
  intro ys hys
  replace hys : StrsAre ys (saidL al) := hys
  refine LCt.CompRestT.zero ?_
  intro Dl h6 q6 F6 N6 off6
  (repeat' (first | (k_unfold; (try dsimp only)) | ((fail_if_success (with_reducible show wpAny _ _ (PySem.eval (Expr.ListComp _ _ _ _) _) _ _ _)); (fail_if_success (with_reducible show wpAny _ _ (PySem.call (Value.ref _) _) _ _ _)); (fail_if_success (with_reducible show wpAny _ _ (subscriptTail _ _ (Value.ref _) (Value.int _ _)) _ _ _)); (fail_if_success (with_reducible show wpAny _ _ (subscriptTail _ _ (Value.ref _) (Value.str _ _)) _ _ _)); (fail_if_success (with_reducible show LCg.CompRest _ _ _ _ _ _ _ _ _ _ _ _ _ _ _ _ _ _ _)); (fail_if_success (with_reducible show LCt.CompRestT _ _ _ _ _ _ _ _ _ _ _ _ _ _ _ _ _ _ _ _)); first | walk1 | (dsimp only; walk1)) | fail "no step"))
  have hsz : ((saidL al).map (·.length)).sum + (saidL al).length * (Str.ofString "-").length ≤ 10000 := by
    have h1 := sum_le (B := 300) _ hsl
    have h2 : (saidL al).length ≤ 3 := by
      unfold saidL
      rw [List.length_map]
      exact List.length_filter_le _ _
    have h3 := Nat.mul_le_mul_right 300 h2
    have h4 : (Str.ofString "-").length = 1 := rfl
    rw [h4]
    omega
  refine' join_list (ys := saidL al) (News.isList N6 (.head _)) hys ?hok ?_
  case hok => exact Nat.le_trans hsz (by decide)
  intro tj kj
  generalize Txt.join (Str.ofString "-") (saidL al) = J at hnm hjl hpl ⊢
  (repeat' (first | (k_unfold; (try dsimp only)) | ((fail_if_success (with_reducible show wpAny _ _ (PySem.eval (Expr.ListComp _ _ _ _) _) _ _ _)); (fail_if_success (with_reducible show wpAny _ _ (PySem.call (Value.ref _) _) _ _ _)); (fail_if_success (with_reducible show wpAny _ _ (subscriptTail _ _ (Value.ref _) (Value.int _ _)) _ _ _)); (fail_if_success (with_reducible show wpAny _ _ (subscriptTail _ _ (Value.ref _) (Value.str _ _)) _ _ _)); (fail_if_success (with_reducible show LCg.CompRest _ _ _ _ _ _ _ _ _ _ _ _ _ _ _ _ _ _ _)); (fail_if_success (with_reducible show LCt.CompRestT _ _ _ _ _ _ _ _ _ _ _ _ _ _ _ _ _ _ _ _)); first | walk1 | (dsimp only; walk1)) | fail "no step"))
  refine ct_fold w J _ hjl hpl mean mg mb _ _ _ _ _ _ _ _ _ _ _ _ _ _ _ B' F6 X' N6 T' rfl trivial ?_
  intro tf h7 q7 F7 N7
  clear F6 N6
  rw [← hnm]
  (repeat' (first | (k_unfold; (try dsimp only)) | ((fail_if_success (with_reducible show wpAny _ _ (PySem.execs (Stmt.Assign _ _ _ :: _) _) _ _ _)); (fail_if_success (with_reducible show wpAny _ _ (PySem.eval (Expr.ListComp _ _ _ _) _) _ _ _)); (fail_if_success (with_reducible show wpAny _ _ (PySem.call (Value.ref _) _) _ _ _)); (fail_if_success (with_reducible show wpAny _ _ (subscriptTail _ _ (Value.ref _) (Value.int _ _)) _ _ _)); (fail_if_success (with_reducible show wpAny _ _ (subscriptTail _ _ (Value.ref _) (Value.str _ _)) _ _ _)); (fail_if_success (with_reducible show LCg.CompRest _ _ _ _ _ _ _ _ _ _ _ _ _ _ _ _ _ _ _)); (fail_if_success (with_reducible show LCt.CompRestT _ _ _ _ _ _ _ _ _ _ _ _ _ _ _ _ _ _ _ _)); first | walk1 | (dsimp only; walk1)) | fail "no step"))
  · rename (nm != nm) = true => hbad
    exact absurd hbad (by rw [bne_self_eq_false]; exact Bool.false_ne_true)
  · rename Fr g L _ _ => F8
    rename News g L _ _ => N8
    exact cont _ _ _ F8 fun p hp => N8 p (.tail _ (.tail _ hp))
end
end
section
open PySem PySem.W PyProof.Rows PySem.Calls PySem.Spec
open PySem PyProof.Rows
noncomputable abbrev UN : List Nat := [117, 110, 107, 110, 111, 119, 110]
/-- the sign that stands for a sign -/
noncomputable def sgn (n : Nat) : Nat := if n ∈ ([47, 92, 58, 59, 34, 40, 41] : List Nat) then 45 else if n = 32 then 95 else n
theorem saidOne_eq (n : Nat) : saidOne n = sgn n := by
  unfold saidOne sgn
  have e := StrLaws.found_one (S "/\\:;\"()") n
  rw [show (S "/\\:;\"()").cps.toList = [47, 92, 58, 59, 34, 40, 41] from rfl] at e
  by_cases h : n ∈ ([47, 92, 58, 59, 34, 40, 41] : List Nat)
  · rw [decide_eq_true h] at e
    rw [if_pos h, if_pos (by simpa using e)]
  · rw [decide_eq_false h] at e
    rw [if_neg h, if_neg (by simpa using e)]
theorem sgn45 : sgn 45 = 45 := by decide
theorem un_plain : ∀ u ∈ UN, u ∉ ([47, 92, 58, 59, 34, 40, 41] : List Nat) ∧ u ≠ 45 ∧ u ≠ 32 ∧ u ≠ 95 := by decide
theorem sgn_un {c u : Nat} (hu : u ∈ UN) : (u == sgn c) = (u == c) := by
  obtain ⟨h1, h2, h3, h4⟩ := un_plain u hu
  rw [Bool.eq_iff_iff, beq_iff_eq, beq_iff_eq]
  unfold sgn
  by_cases h : c ∈ ([47, 92, 58, 59, 34, 40, 41] : List Nat)
  · rw [if_pos h]
    exact ⟨fun q => absurd q h2, fun q => absurd (q ▸ h) h1⟩
  · rw [if_neg h]
    by_cases h' : c = 32
    · rw [if_pos h']
      exact ⟨fun q => absurd q h4, fun q => absurd (q.trans h') h3⟩
    · rw [if_neg h']
theorem pre_map : ∀ (u l : List Nat), (∀ a ∈ u, a ∈ UN) → u.isPrefixOf (l.map sgn) = u.isPrefixOf l
  | [], _, _ => by simp [List.isPrefixOf]
  | a :: u, [], _ => by simp [List.isPrefixOf]
  | a :: u, c :: l, h => by
    simp only [List.map_cons, List.isPrefixOf]
    rw [sgn_un (h a (.head _)), pre_map u l fun b hb => h b (.tail _ hb)]
theorem rpl_map : ∀ (l : List Nat) (k : Nat), rpl UN [] k (l.map sgn) = (rpl UN [] k l).map sgn
  | [], _ => by unfold rpl; rfl
  | c :: l, k + 1 => by
    have ih := rpl_map l k
    rw [List.map_cons]
    unfold rpl
    exact ih
  | c :: l, 0 => by
    have i1 := rpl_map l (UN.length - 1)
    have i2 := rpl_map l 0
    have e := pre_map UN (c :: l) fun _ h => h
    rw [List.map_cons] at e
    rw [List.map_cons]
    unfold rpl
    rw [e]
    split
    · rw [List.nil_append, List.nil_append]; exact i1
    · rw [List.map_cons, i2]
theorem pre_cut : ∀ (u a b : List Nat), 45 ∉ u → u.isPrefixOf (a ++ 45 :: b) = u.isPrefixOf a
  | [], _, _, _ => by simp [List.isPrefixOf]
  | x :: u, [], b, h => by
    have : x ≠ 45 := fun q => h (q ▸ .head _)
    simp [List.isPrefixOf, this]
  | x :: u, c :: a, b, h => by
    simp only [List.cons_append, List.isPrefixOf]
    rw [pre_cut u a b fun q => h (.tail _ q)]
theorem rpl_nil (u z : List Nat) (k : Nat) : rpl u z k [] = [] := by unfold rpl; rfl
theorem rpl_skip (u z : List Nat) (k c : Nat) (l : List Nat) : rpl u z (k + 1) (c :: l) = rpl u z k l := by
  conv => lhs; unfold rpl
theorem rpl_yes {u z : List Nat} {c : Nat} {l : List Nat} (h : u.isPrefixOf (c :: l) = true) : rpl u z 0 (c :: l) = z ++ rpl u z (u.length - 1) l := by
  conv => lhs; unfold rpl
  exact if_pos h
theorem rpl_no {u z : List Nat} {c : Nat} {l : List Nat} (h : ¬ u.isPrefixOf (c :: l) = true) : rpl u z 0 (c :: l) = c :: rpl u z 0 l := by
  conv => lhs; unfold rpl
  exact if_neg h
theorem rpl_cut : ∀ (a b : List Nat) (k : Nat), k ≤ a.length → rpl UN [] k (a ++ 45 :: b) = rpl UN [] k a ++ 45 :: rpl UN [] 0 b
  | [], b, 0, _ => by
    show rpl UN [] 0 (45 :: b) = _
    rw [rpl_nil, rpl_no (by simp [List.isPrefixOf])]; rfl
  | [], _, k + 1, h => absurd h (by simp)
  | c :: a, b, k + 1, h => by
    have ih := rpl_cut a b k (Nat.le_of_succ_le_succ h)
    show rpl UN [] (k + 1) (c :: (a ++ 45 :: b)) = _
    rw [rpl_skip, rpl_skip, ih]
  | c :: a, b, 0, _ => by
    have e := pre_cut UN (c :: a) b (by decide)
    have i0 := rpl_cut a b 0 (Nat.zero_le _)
    show rpl UN [] 0 (c :: (a ++ 45 :: b)) = _
    rw [List.cons_append] at e
    by_cases h : UN.isPrefixOf (c :: a) = true
    · have hl := pre_len h
      have i1 := rpl_cut a b (UN.length - 1) (by simp only [List.length_cons] at hl ⊢; omega)
      rw [rpl_yes h, rpl_yes (e.trans h), i1, List.nil_append, List.nil_append]
    · rw [rpl_no h, rpl_no (fun q => h (e.symm.trans q)), i0]; rfl
theorem jn_two (z p q : List Nat) (r : List (List Nat)) : jn z (p :: q :: r) = p ++ z ++ jn z (q :: r) := by simp [jn]
theorem jn_map : ∀ ps : List (List Nat), (jn [45] ps).map sgn = jn [45] (ps.map (List.map sgn))
  | [] => rfl
  | [p] => rfl
  | p :: q :: r => by
    have ih := jn_map (q :: r)
    simp only [List.map_cons] at ih ⊢
    rw [jn_two, jn_two, List.map_append, List.map_append, ih]
    rfl
theorem jn_rpl : ∀ ps : List (List Nat), rpl UN [] 0 (jn [45] ps) = jn [45] (ps.map (rpl UN [] 0))
  | [] => by unfold jn rpl; rfl
  | [p] => rfl
  | p :: q :: r => by
    have ih := jn_rpl (q :: r)
    simp only [List.map_cons] at ih ⊢
    rw [jn_two, jn_two, List.append_assoc, List.append_assoc]
    show rpl UN [] 0 (p ++ 45 :: jn [45] (q :: r)) = _ ++ 45 :: _
    rw [rpl_cut p _ 0 (Nat.zero_le _), ih]
    rfl
/-- what _law_said makes of the signs of a text -/
noncomputable def saidN (l : List Nat) : List Nat := (rpl UN [] 0 (trimL l)).map sgn
theorem ls_saidT (x : Str) : ls (saidT x) = saidN (ls x) := by
  unfold saidT saidN saidI KStt.codes
  simp only [ls, List.map_map, List.toList_toArray]
  have e : (Txt.join (S "") (Txt.split (Txt.strip x) (S "unknown"))).cps.toList = rpl UN [] 0 (trimL (ls x)) := by
    show ls _ = _
    rw [txt_join_ls, split_ls (by decide) (by decide +kernel), strip_ls]
    exact rpl_eq UN [] _ 0
  rw [e]
  exact List.map_congr_left fun a _ => saidOne_eq a
theorem ne_empty (a : Str) : (a.length != 0) = (a != S "") := by
  rw [Bool.eq_iff_iff, bne_iff_ne, bne_iff_ne]
  constructor
  · intro h q; exact h (by rw [q]; rfl)
  · intro h q; exact h (str_ext (List.length_eq_zero_iff.mp (by rw [len_ls]; exact q)))
/-- the joined text that is folded -/
noncomputable def joinedL (al : Str × Str × Str) : Str := Txt.join (S "-") (saidL al)
theorem ls_joined (al : Str × Str × Str) : ls (joinedL al) = jn [45] (([al.1, al.2.1, al.2.2].filter fun a => a != S "").map fun a => saidN (ls a)) := by
  unfold joinedL saidL
  rw [txt_join_ls, List.map_map]
  show jn [45] _ = _
  congr 1
  exact List.map_congr_left fun a _ => ls_saidT a
/-- one sign for one sign -/
noncomputable def oneS (c d a : Nat) : Nat := if a = c then d else a
theorem oneS_ne {c d a : Nat} (h : a ≠ c) : oneS c d a = a := if_neg h
theorem ls_one (x : Str) {y z : Str} (c d : Nat) (hy : y = ⟨#[c]⟩) (hz : z = ⟨#[d]⟩) : ls (Txt.replace x y z) = (ls x).map (oneS c d) := by
  subst hy hz
  have h1 : 1 ≤ (⟨#[c]⟩ : Str).length := Nat.le_refl 1
  rw [replace_ls h1]
  exact rpl_one c d (ls x)
noncomputable def all8 (a : Nat) : Nat := oneS 41 45 (oneS 40 45 (oneS 34 45 (oneS 59 45 (oneS 58 45 (oneS 92 45 (oneS 47 45 (oneS 32 95 a)))))))
theorem all8_in : ∀ a ∈ ([32, 47, 92, 58, 59, 34, 40, 41] : List Nat), all8 a = sgn a := by decide
theorem all8_eq (a : Nat) : all8 a = sgn a := by
  by_cases h : a ∈ ([32, 47, 92, 58, 59, 34, 40, 41] : List Nat)
  · exact all8_in a h
  · have n : ∀ b ∈ ([32, 47, 92, 58, 59, 34, 40, 41] : List Nat), a ≠ b := fun b hb q => h (q ▸ hb)
    unfold all8 sgn
    rw [oneS_ne (n 32 (by decide)), oneS_ne (n 47 (by decide)), oneS_ne (n 92 (by decide)), oneS_ne (n 58 (by decide)), oneS_ne (n 59 (by decide)), oneS_ne (n 34 (by decide)), oneS_ne (n 40 (by decide)), oneS_ne (n 41 (by decide)),
      if_neg (show ¬ a ∈ ([47, 92, 58, 59, 34, 40, 41] : List Nat) from fun q => h (List.mem_cons_of_mem _ q)), if_neg (n 32 (by decide))]
theorem ls_r8 (x : Str) : ls (r8 x) = rpl UN [] 0 ((ls x).map sgn) := by
  unfold r8
  rw [replace_ls (by decide)]
  show rpl UN [] 0 _ = _
  congr 1
  rw [ls_one (y := S ")") (z := S "-") _ 41 45 rfl rfl, ls_one (y := S "(") (z := S "-") _ 40 45 rfl rfl, ls_one (y := S "\"") (z := S "-") _ 34 45 rfl rfl, ls_one (y := S ";") (z := S "-") _ 59 45 rfl rfl, ls_one (y := S ":") (z := S "-") _ 58 45 rfl rfl, ls_one (y := S "\\") (z := S "-") _ 92 45 rfl rfl, ls_one (y := S "/") (z := S "-") _ 47 45 rfl rfl, ls_one (y := S " ") (z := S "_") _ 32 95 rfl rfl]
  simp only [List.map_map]
  exact List.map_congr_left fun a _ => all8_eq a
theorem ls_platJ (x y z : Str) : ls (platJ x y z) = jn [45] (([x, y, z].filter fun a => a != S "").map fun a => trimL (ls a)) := by
  unfold platJ
  rw [txt_join_ls, List.map_map]
  show jn [45] _ = _
  have e : (([x, y, z] : List Str).filter fun a => a.length != 0) = [x, y, z].filter fun a => a != S "" := by
    congr 1; funext a; exact ne_empty a
  rw [e]
  congr 1
  exact List.map_congr_left fun a _ => strip_ls a
theorem r8_joined (x y z : Str) : ls (r8 (platJ x y z)) = ls (joinedL (x, y, z)) := by
  rw [ls_r8, ls_platJ, jn_map, jn_rpl, ls_joined]
  simp only [List.map_map]
  congr 1
  exact List.map_congr_left fun a _ => rpl_map _ 0
theorem ls_colF : ∀ (n : Nat) (x : Str), x.length < n → ls (colF n x) = sqz (ls x)
  | 0, x, h => absurd h (Nat.not_lt_zero _)
  | n + 1, x, h => by
    have e : ls (Txt.replace x dd d1) = rpl DD [45] 0 (ls x) := replace_ls (by decide)
    unfold colF
    split
    · rename_i hb
      rw [beq_iff_eq.mp hb] at e
      exact (rpp_fix _ e.symm).symm
    · rename_i hb
      have hl : (Txt.replace x dd d1).length < x.length := by
        rcases replace_dec (x := x) (y := dd) (z := d1) (by decide) with q | q
        · exact absurd q hb
        · exact q
      rw [ls_colF n _ (by omega), e, sqz_rpp _ _ (Nat.le_refl _)]
theorem ls_trF : ∀ (n : Nat) (x : Str), x.length < n → ls (trF n x) = trl (ls x)
  | 0, x, h => absurd h (Nat.not_lt_zero _)
  | n + 1, x, h => by
    unfold trF
    rcases List.eq_nil_or_concat (ls x) with hx | ⟨l, c, hx⟩
    · have h0 : x.length = 0 := by rw [← len_ls, hx]; rfl
      rw [h0]
      rw [if_neg (by simp), hx]; rfl
    · rw [List.concat_eq_append] at hx
      have h0 : x.length ≠ 0 := by rw [← len_ls, hx]; simp
      have hi : Txt.item x (-1) = ⟨#[c]⟩ := item_last h0 hx
      have hc : (Txt.item x (-1) == d1) = (c == 45) := by rw [hi]; exact one_eq c 45
      rw [hc, show (x.length != 0) = true by simp [h0], Bool.true_and]
      by_cases q : c = 45
      · subst q
        rw [if_pos (show (45 == 45) = true from rfl), ls_trF n _ (by have := cut_len x h0; omega), slice_last h0, hx]
        have : (l ++ [45]).take (x.length - 1) = l := by
          have : x.length - 1 = l.length := by rw [← len_ls, hx]; simp
          rw [this, List.take_left]
        rw [this, trl_snoc]
      · rw [if_neg (by simp [q]), hx, trl_keep l q]
theorem pieces_ls (x : Str) : (pieces x).map ls = nep (ls x) := by
  unfold pieces nep
  rw [← show ls (S "-") = [45] from rfl, ← split_ls (x := x) (y := S "-") (by decide) (by decide +kernel), List.filter_map]
  congr 2
  funext a
  rw [Bool.eq_iff_iff, bne_iff_ne]
  show _ ↔ (ls a != []) = true
  rw [bne_iff_ne]
  constructor
  · intro h q; exact h (str_ext q)
  · intro h q; exact h (by rw [q]; rfl)
theorem ls_foldS (x : Str) : ls (foldS x) = (if (ls x).head? = some 45 ∧ nep (ls x) ≠ [] then [45] else []) ++ jn [45] (nep (ls x)) := by
  unfold foldS
  rw [ls_app, txt_join_ls, pieces_ls]
  have h1 : (Txt.slice x none (some 1) == S "-") = true ↔ (ls x).head? = some 45 := by
    rw [beq_iff_eq]
    have e := slice_first x
    constructor
    · intro q
      rw [q] at e
      cases hl : ls x with
      | nil => rw [hl] at e; cases e
      | cons c m => rw [hl] at e; injection e with e _; rw [← e]; rfl
    · intro q
      cases hl : ls x with
      | nil => rw [hl] at q; cases q
      | cons c m =>
        rw [hl] at q e
        have : c = 45 := by simpa using q
        subst this
        exact str_ext e
  have h2 : pieces x ≠ [] ↔ nep (ls x) ≠ [] := by rw [← pieces_ls]; simp
  by_cases hc : (ls x).head? = some 45 ∧ nep (ls x) ≠ []
  · rw [if_pos hc, if_pos ⟨h1.mpr hc.1, h2.mpr hc.2⟩]; rfl
  · rw [if_neg hc, if_neg (fun q => hc ⟨h1.mp q.1, h2.mp q.2⟩)]; rfl
/-- the name is the fold of what is said -/
theorem plat_fold {x y z : Str} (hx : x.length ≤ 100) (hy : y.length ≤ 100) (hz : z.length ≤ 100) : platS x y z = foldS (Txt.join (S "-") (saidL (x, y, z))) := by
  refine str_ext ?_
  have hJ := platJ_len hx hy hz
  have h8 : (r8 (platJ x y z)).length ≤ 400 := by
    rw [← len_ls, ls_r8]
    refine Nat.le_trans (rpl_len UN [] (by decide) (by decide) _ 0) ?_
    rw [List.length_map, len_ls]; omega
  unfold platS
  rw [ls_trF _ _ (Nat.lt_of_le_of_lt (Nat.le_trans (colF_len 1000 _) h8) (by decide)), ls_colF _ _ (Nat.lt_of_le_of_lt h8 (by decide)), fold_eq, r8_joined]
  exact (ls_foldS _).symm
end
section
open PySem PySem.W PyProof.Rows PySem.Calls PySem.Spec
section
variable {w : World} {cn : Str} {cs : Scope} {L0 a : Addr} {ccd : Value} {L : Addr} {g : Heap} {s : Shared} {Q : Flow → Shared → Prop} {E : Value → Shared → Prop} {mean : ExcName → Option Value} {mg mb : Str → Option Value} {base : Heap}
  {r : Str → Option Value} {ps : Array Value} {news : List (Addr × Obj)} {tn : Tok} {nm : Str} {D : Addr} {us : List Value} {P : List Str} {k : Nat}
set_option maxRecDepth 100000 in
set_option maxHeartbeats 2000000 in
theorem m_ret (G' : G2 w mean mg mb (A1 cn cs L0 a ccd) base [envOf cn cs L0 a ccd] g) (F : Fr g L s.heap (fun y => if y = Str.ofString "parts" then some (.ref D) else if y = Str.ofString "name" then some (.str nm tn) else r y))
    (N : News g L s.heap ((D, listOf us.toArray k) :: (23, tabObj ps) :: news)) (hl : nm.length ≤ 1000) (hus : StrsAre us P) (hP : hend (hrun (KStt.codes nm)) = P) (hq : hend (hrun (KStt.codes (Str.ofString "\"" ++ nm ++ Str.ofString "\""))) = [Str.ofString "\"" ++ nm ++ Str.ofString "\""]) (hA : ∀ x ∈ P, Asc x) (hB : Asc nm)
    (done : ∀ (h : Heap) (tk : Nat) (m' : Str → Option Value), Fr g L h m' → News g L h ((23, tabObj ps) :: news) → Q (.ret (.bool true)) { s with heap := h, toks := tk }) :
    wpAny (model PP w) (mA cn cs L0 a ccd L) (execs (mBody.drop 19) (mEnv L)) Q E s := by
  (w_top off; k_with_none; (have hz9 : PySem.Challenge.rw_mj0138_01 = PySem.Challenge.rw_mj0138_01 ∧ hd.heap_39 = hd.heap_39 := by (k_fill; exact ⟨rfl, rfl⟩)); clear hz9)
  obtain ⟨B', X', T', XB', TB', D'⟩ := id G'
  clear XB' TB' D'
  refine wpAny_execs_cons ?_
  (repeat' (first | (k_unfold; (try dsimp only)) | ((fail_if_success (with_reducible show wpAny _ _ (PySem.execs (Stmt.Assign _ _ _ :: _) _) _ _ _)); (fail_if_success (with_reducible show wpAny _ _ (PySem.eval (Expr.ListComp _ _ _ _) _) _ _ _)); (fail_if_success (with_reducible show wpAny _ _ (PySem.call (Value.ref _) _) _ _ _)); (fail_if_success (with_reducible show wpAny _ _ (subscriptTail _ _ (Value.ref _) (Value.int _ _)) _ _ _)); (fail_if_success (with_reducible show wpAny _ _ (subscriptTail _ _ (Value.ref _) (Value.str _ _)) _ _ _)); (fail_if_success (with_reducible show LCg.CompRest _ _ _ _ _ _ _ _ _ _ _ _ _ _ _ _ _ _ _)); (fail_if_success (with_reducible show LCt.CompRestT _ _ _ _ _ _ _ _ _ _ _ _ _ _ _ _ _ _ _ _)); first | walk1 | (dsimp only; walk1)) | fail "no step"))
  rename Fr g L _ _ => F1
  rename News g L _ _ => N1
  refine ct_http w nm _ (Nat.le_trans hl (by decide)) mean mg mb _ _ _ _ _ _ _ _ _ _ _ _ _ _ _ B' F1 X' N1 T' rfl trivial ?_
  intro D1 us1 n1 h1 q1 hu1 F2 N2
  rw [hP] at hu1
  clear F1 N1
  (repeat' (first | (k_unfold; (try dsimp only)) | ((fail_if_success (with_reducible show wpAny _ _ (PySem.compareOp _ (Value.ref _) (Value.ref _)) _ _ _)); (fail_if_success (with_reducible show wpAny _ _ (PySem.eval (Expr.ListComp _ _ _ _) _) _ _ _)); (fail_if_success (with_reducible show wpAny _ _ (PySem.call (Value.ref _) _) _ _ _)); (fail_if_success (with_reducible show wpAny _ _ (subscriptTail _ _ (Value.ref _) (Value.int _ _)) _ _ _)); (fail_if_success (with_reducible show wpAny _ _ (subscriptTail _ _ (Value.ref _) (Value.str _ _)) _ _ _)); (fail_if_success (with_reducible show LCg.CompRest _ _ _ _ _ _ _ _ _ _ _ _ _ _ _ _ _ _ _)); (fail_if_success (with_reducible show LCt.CompRestT _ _ _ _ _ _ _ _ _ _ _ _ _ _ _ _ _ _ _ _)); first | walk1 | (dsimp only; walk1)) | fail "no step"))
  rename Fr g L _ _ => F3
  rename News g L _ _ => N3
  refine eq_strs (us := P) (vs := P) (News.isList N3 (by k_mem)) (News.isList N3 (by k_mem)) hu1 hus hA hA (of_decide_eq_true rfl) ?_
  rw [decide_eq_true rfl]
  (repeat' (first | (k_unfold; (try dsimp only)) | ((fail_if_success (with_reducible show wpAny _ _ (PySem.compareOp _ (Value.ref _) (Value.ref _)) _ _ _)); (fail_if_success (with_reducible show wpAny _ _ (PySem.eval (Expr.ListComp _ _ _ _) _) _ _ _)); (fail_if_success (with_reducible show wpAny _ _ (PySem.call (Value.ref _) _) _ _ _)); (fail_if_success (with_reducible show wpAny _ _ (subscriptTail _ _ (Value.ref _) (Value.int _ _)) _ _ _)); (fail_if_success (with_reducible show wpAny _ _ (subscriptTail _ _ (Value.ref _) (Value.str _ _)) _ _ _)); (fail_if_success (with_reducible show LCg.CompRest _ _ _ _ _ _ _ _ _ _ _ _ _ _ _ _ _ _ _)); (fail_if_success (with_reducible show LCt.CompRestT _ _ _ _ _ _ _ _ _ _ _ _ _ _ _ _ _ _ _ _)); first | walk1 | (dsimp only; walk1)) | fail "no step"))
  have hl2 : (Str.ofString "\"" ++ nm ++ Str.ofString "\"").length ≤ 10000 := by
    have z : (Str.ofString "\"").length = 1 := rfl
    rw [Str.length_append, Str.length_append, z]
    omega
  refine ct_http w (Str.ofString "\"" ++ nm ++ Str.ofString "\"") _ hl2 mean mg mb _ _ _ _ _ _ _ _ _ _ _ _ _ _ _ B' F3 X' N3 T' rfl trivial ?_
  intro D2 us2 n2 h2 q2 hu2 F4 N4
  rw [hq] at hu2
  clear F3 N3
  (repeat' (first | (k_unfold; (try dsimp only)) | ((fail_if_success (with_reducible show wpAny _ _ (PySem.compareOp _ (Value.ref _) (Value.ref _)) _ _ _)); (fail_if_success (with_reducible show wpAny _ _ (PySem.eval (Expr.ListComp _ _ _ _) _) _ _ _)); (fail_if_success (with_reducible show wpAny _ _ (PySem.call (Value.ref _) _) _ _ _)); (fail_if_success (with_reducible show wpAny _ _ (subscriptTail _ _ (Value.ref _) (Value.int _ _)) _ _ _)); (fail_if_success (with_reducible show wpAny _ _ (subscriptTail _ _ (Value.ref _) (Value.str _ _)) _ _ _)); (fail_if_success (with_reducible show LCg.CompRest _ _ _ _ _ _ _ _ _ _ _ _ _ _ _ _ _ _ _)); (fail_if_success (with_reducible show LCt.CompRestT _ _ _ _ _ _ _ _ _ _ _ _ _ _ _ _ _ _ _ _)); first | walk1 | (dsimp only; walk1)) | fail "no step"))
  rename Fr g L _ _ => F5
  rename News g L _ _ => N5
  have hAq : ∀ x ∈ [Str.ofString "\"" ++ nm ++ Str.ofString "\""], Asc x := fun x hx => by
    rw [List.mem_singleton.mp hx]
    intro c hc
    rw [Str.cps_append, Str.cps_append, Array.toList_append, Array.toList_append] at hc
    rcases List.mem_append.mp hc with hc | hc
    · rcases List.mem_append.mp hc with hc | hc
      · exact (show ∀ c ∈ (Str.ofString "\"").cps.toList, c < 128 by decide) c hc
      · exact hB c hc
    · exact (show ∀ c ∈ (Str.ofString "\"").cps.toList, c < 128 by decide) c hc
  refine eq_strs (us := [Str.ofString "\"" ++ nm ++ Str.ofString "\""]) (vs := [Str.ofString "\"" ++ nm ++ Str.ofString "\""]) (ys := [.str (Str.ofString "\"" ++ nm ++ Str.ofString "\"") _]) (News.isList N5 (.tail _ (.head _))) (News.isList N5 (.head _)) hu2 (.cons _ _ .nil) hAq hAq (of_decide_eq_true rfl) ?_
  rw [decide_eq_true rfl]
  exact done _ _ _ F5 fun p hp => N5 p (.tail _ (.tail _ (.tail _ (.tail _ hp))))
end
end
section
open PySem PySem.W PyProof.Rows PySem.Calls PySem.Spec
theorem item_last_s {w : World} {A : Around} {E : Value → Shared → Prop} {s : Shared} {value slice : Expr} {D : Addr} {vs : List Value} {xs : List Str} {u : Tok} {Q : Value → Shared → Prop} (hl : s.heap.IsList D vs.toArray) (hS : StrsAre vs xs) (hn : xs ≠ [])
    (h : ∀ t', Q (.str (xs.getLast hn) t') s)
    (hs : subscripted slice false (.ref D) (.int (-1) u) = operate [.ref D, .int (-1) u] (getItem (.ref D) (.int (-1) u)) := by with_unfolding_all rfl) (hg : ∀ r, letTemporaryGo value (.ref D) r = pure () := by intro _; with_unfolding_all rfl) :
    wpAny (model PP w) A (subscriptTail value slice (.ref D) (.int (-1) u)) Q E s := by
  have hlen := hS.length
  have hpos : 0 < xs.length := List.length_pos_iff.mpr hn
  obtain ⟨t, e⟩ := hS.at (j := xs.length - 1) (y := xs.getLast hn) (by rw [List.getLast_eq_getElem]; exact List.getElem?_eq_getElem _)
  refine subscriptTail_builtin hl.typeIs slot_list_getitem.lookup (wpAny_getItem_list_neg hl (by decide) (by simp; omega) (by decide) ?_ (h t)) hs hg
  rw [List.size_toArray, hlen, show (-1 + ((xs.length : Nat) : Int)).toNat = xs.length - 1 by omega]
  simpa using e
noncomputable def partsL (nm : Str) : List Str := if ((Txt.split nm (Str.ofString ",")).getLast (split_ne _ _) == Str.ofString "") = true then (Txt.split nm (Str.ofString ",")).dropLast else Txt.split nm (Str.ofString ",")
theorem strs_init : ∀ {vs : List Value} {xs : List Str}, StrsAre vs xs → StrsAre vs.dropLast xs.dropLast
  | _, _, .nil => .nil
  | _, _, .cons _ _ .nil => .nil
  | _, _, .cons a t (.cons b u r) => .cons a t (strs_init (.cons b u r))
theorem pick_init (vs : List Value) : slicePick vs.toArray none (some (-1)) none = vs.dropLast.toArray := by
  have e := slicePick_butLast vs.toArray 1 (Nat.le_refl _)
  rw [List.dropLast_eq_take]
  exact e
noncomputable def Stepped (Mid : Shared → Prop) (f : Flow) (s' : Shared) : Prop := f = .next ∧ Mid s'
theorem execs_cont {w : World} {A : Around} {env : Env} {st : Stmt} {rest : List Stmt} {s : Shared} {Q : Flow → Shared → Prop} {E : Value → Shared → Prop} (Mid : Shared → Prop)
    (h2 : ∀ s', Mid s' → wpAny (model PP w) A (execs rest env) Q E s') (h1 : wpAny (model PP w) A (exec st env) (Stepped Mid) E s) : wpAny (model PP w) A (execs (st :: rest) env) Q E s :=
  wpAny_execs_cons (wpAny_mono h1 (fun f s' h => by obtain ⟨rfl, h⟩ := h; exact h2 s' h) fun _ _ h => h)
section
variable {w : World} {cn : Str} {cs : Scope} {L0 a : Addr} {ccd : Value} {L : Addr} {g : Heap} {s : Shared} {Q : Flow → Shared → Prop} {E : Value → Shared → Prop} {mean : ExcName → Option Value} {mg mb : Str → Option Value} {base : Heap}
  {r : Str → Option Value} {ps : Array Value} {news : List (Addr × Obj)} {tn : Tok} {nm : Str}
set_option maxRecDepth 100000 in
set_option maxHeartbeats 2000000 in
theorem m_end (G' : G2 w mean mg mb (A1 cn cs L0 a ccd) base [envOf cn cs L0 a ccd] g) (F : Fr g L s.heap (fun y => if y = Str.ofString "name" then some (.str nm tn) else r y))
    (N : News g L s.heap ((23, tabObj ps) :: news)) (hl : nm.length ≤ 1000) (hP : hend (hrun (KStt.codes nm)) = partsL nm) (hq : hend (hrun (KStt.codes (Str.ofString "\"" ++ nm ++ Str.ofString "\""))) = [Str.ofString "\"" ++ nm ++ Str.ofString "\""]) (hA : ∀ x ∈ Txt.split nm (Str.ofString ","), Asc x) (hB : Asc nm)
    (done : ∀ (h : Heap) (tk : Nat) (m' : Str → Option Value), Fr g L h m' → News g L h ((23, tabObj ps) :: news) → Q (.ret (.bool true)) { s with heap := h, toks := tk }) :
    wpAny (model PP w) (mA cn cs L0 a ccd L) (execs (mBody.drop 17) (mEnv L)) Q E s := by
  (w_top off; k_with_none; (have hz9 : PySem.Challenge.rw_mj0138_01 = PySem.Challenge.rw_mj0138_01 ∧ hd.heap_39 = hd.heap_39 := by (k_fill; exact ⟨rfl, rfl⟩)); clear hz9)
  obtain ⟨B', X', T', XB', TB', D'⟩ := id G'
  clear XB' TB' D'
  refine wpAny_execs_cons ?_
  (repeat' (first | (k_unfold; (try dsimp only)) | ((fail_if_success (with_reducible show wpAny _ _ (storeName _ _ _) _ _ _)); first | walk1 | (dsimp only; walk1)) | fail "no step"))
  walk1
  rename (List.map _ _ = Txt.split _ _) => hM
  rename List (Str × Tok) => l9
  rename StrsAre _ _ => hS9
  rw [hM] at hS9
  generalize strValues l9 = us9 at *
  rename Fr g L _ _ => F1
  rename News g L _ _ => N1
  refine execs_cont (fun s' => ∃ (h : Heap) (tk k : Nat) (D : Addr) (us : List Value) (r' : Str → Option Value), s' = { s with heap := h, toks := tk } ∧ Fr g L h (fun y => if y = Str.ofString "parts" then some (.ref D) else if y = Str.ofString "name" then some (.str nm tn) else r' y) ∧
    News g L h ((D, listOf us.toArray k) :: (23, tabObj ps) :: news) ∧ StrsAre us (partsL nm)) ?rest ?now
  case rest =>
    rintro s' ⟨h, tk, k, D, us, r', rfl, F2, N2, hS2⟩
    refine m_ret (s := { s with heap := _, toks := _ }) (us := us) (P := partsL nm) G' F2 N2 hl hS2 hP hq (fun x hx => ?_) hB done
    unfold partsL at hx
    split at hx
    · exact hA x (List.dropLast_subset _ hx)
    · exact hA x hx
  case now =>
    dsimp only
    (repeat' (first | (k_unfold; (try dsimp only)) | ((fail_if_success (with_reducible show wpAny _ _ (PySem.compareOp _ (Value.ref _) (Value.ref _)) _ _ _)); (fail_if_success (with_reducible show wpAny _ _ (PySem.eval (Expr.ListComp _ _ _ _) _) _ _ _)); (fail_if_success (with_reducible show wpAny _ _ (PySem.call (Value.ref _) _) _ _ _)); (fail_if_success (with_reducible show wpAny _ _ (subscriptTail _ _ (Value.ref _) (Value.int _ _)) _ _ _)); (fail_if_success (with_reducible show wpAny _ _ (subscriptTail _ _ (Value.ref _) (Value.str _ _)) _ _ _)); (fail_if_success (with_reducible show LCg.CompRest _ _ _ _ _ _ _ _ _ _ _ _ _ _ _ _ _ _ _)); (fail_if_success (with_reducible show LCt.CompRestT _ _ _ _ _ _ _ _ _ _ _ _ _ _ _ _ _ _ _ _)); first | walk1 | (dsimp only; walk1)) | fail "no step"))
    refine item_last_s (News.isList N1 (by k_mem)) hS9 (split_ne _ _) fun t5 => ?_
    (repeat' (first | (k_unfold; (try dsimp only)) | ((fail_if_success (with_reducible show wpAny _ _ (PySem.compareOp _ (Value.ref _) (Value.ref _)) _ _ _)); (fail_if_success (with_reducible show wpAny _ _ (PySem.eval (Expr.ListComp _ _ _ _) _) _ _ _)); (fail_if_success (with_reducible show wpAny _ _ (PySem.call (Value.ref _) _) _ _ _)); (fail_if_success (with_reducible show wpAny _ _ (subscriptTail _ _ (Value.ref _) (Value.int _ _)) _ _ _)); (fail_if_success (with_reducible show wpAny _ _ (subscriptTail _ _ (Value.ref _) (Value.str _ _)) _ _ _)); (fail_if_success (with_reducible show LCg.CompRest _ _ _ _ _ _ _ _ _ _ _ _ _ _ _ _ _ _ _)); (fail_if_success (with_reducible show LCt.CompRestT _ _ _ _ _ _ _ _ _ _ _ _ _ _ _ _ _ _ _ _)); first | walk1 | (dsimp only; walk1)) | fail "no step"))
    · rename (_ == _) = true => hb
      rename Fr g L _ (fun y => ite (y = _) _ (ite (y = _) _ _)) => F2
      rename News g L _ _ => N2
      rw [pick_init] at N2
      have e : partsL nm = (Txt.split nm (Str.ofString ",")).dropLast := if_pos hb
      rw [two_if] at F2
      refine ⟨rfl, _, _, 0, _, us9.dropLast, r, rfl, F2, fun p hp => N2 p ?_, ?_⟩
      · rcases List.mem_cons.mp hp with rfl | hp
        · exact .head _
        · exact .tail _ (.tail _ hp)
      · rw [e]; exact strs_init hS9
    · rename (_ == _) = false => hb
      rename Fr g L _ _ => F2
      rename News g L _ _ => N2
      have e : partsL nm = Txt.split nm (Str.ofString ",") := if_neg (by rw [hb]; exact Bool.false_ne_true)
      refine ⟨rfl, _, _, 0, _, us9, r, rfl, F2, N2, ?_⟩
      rw [e]; exact hS9
end
end
section
open PySem PySem.W PyProof.Rows PySem.Calls PySem.Spec
open PySem PyProof.Rows
/-- plain signs; no blank but the one -/
noncomputable def Good (x : Str) : Prop := ∀ c ∈ ls x, c < 128 ∧ (c = 32 ∨ sp c = false)
theorem Good.asc {x : Str} (h : Good x) : Asc x := fun c hc => (h c hc).1
theorem dropWhile_mem (p : Nat → Bool) : ∀ (l : List Nat), ∀ c ∈ l.dropWhile p, c ∈ l := fun l c hc => (List.dropWhile_sublist p).subset hc
theorem trim_mem (l : List Nat) : ∀ c ∈ trimL l, c ∈ l := fun c hc => by
  unfold trimL at hc
  have h1 := dropWhile_mem sp _ c (List.mem_reverse.mp hc)
  exact dropWhile_mem sp _ c (List.mem_reverse.mp h1)
theorem trim_len (l : List Nat) : (trimL l).length ≤ l.length := by
  unfold trimL
  rw [List.length_reverse]
  refine Nat.le_trans (List.dropWhile_sublist sp).length_le ?_
  rw [List.length_reverse]
  exact (List.dropWhile_sublist sp).length_le
theorem rpl_mem (u : List Nat) : ∀ (l : List Nat) (k : Nat), ∀ c ∈ rpl u [] k l, c ∈ l
  | [], k, c, hc => by rw [rpl_nil] at hc; exact hc
  | a :: l, k + 1, c, hc => by rw [rpl_skip] at hc; exact .tail _ (rpl_mem u l k c hc)
  | a :: l, 0, c, hc => by
    by_cases h : u.isPrefixOf (a :: l) = true
    · rw [rpl_yes h, List.nil_append] at hc
      exact .tail _ (rpl_mem u l _ c hc)
    · rw [rpl_no h] at hc
      rcases List.mem_cons.mp hc with rfl | hc
      · exact .head _
      · exact .tail _ (rpl_mem u l 0 c hc)
theorem saidN_mem (l : List Nat) : ∀ c ∈ saidN l, ∃ a ∈ l, c = sgn a := fun c hc => by
  obtain ⟨a, ha, rfl⟩ := List.mem_map.mp hc
  exact ⟨a, trim_mem l a (rpl_mem UN _ 0 a ha), rfl⟩
theorem saidN_len (l : List Nat) : (saidN l).length ≤ l.length := by
  unfold saidN
  rw [List.length_map]
  exact Nat.le_trans (rpl_len UN [] (by decide) (by decide) _ 0) (trim_len l)
theorem jn_mem : ∀ (ps : List (List Nat)), ∀ c ∈ jn [45] ps, c = 45 ∨ ∃ p ∈ ps, c ∈ p
  | [], c, hc => nomatch hc
  | [p], c, hc => .inr ⟨p, .head _, hc⟩
  | p :: q :: r, c, hc => by
    rw [jn_two] at hc
    rcases List.mem_append.mp hc with hc | hc
    · rcases List.mem_append.mp hc with hc | hc
      · exact .inr ⟨p, .head _, hc⟩
      · exact .inl (List.mem_singleton.mp hc)
    · rcases jn_mem (q :: r) c hc with h | ⟨p', h1, h2⟩
      · exact .inl h
      · exact .inr ⟨p', .tail _ h1, h2⟩
/-- a sign of a name -/
noncomputable def NmC (c : Nat) : Prop := c < 128 ∧ sp c = false ∧ c ≠ 34 ∧ c ≠ 92
theorem sgn_nm {a : Nat} (h : a < 128 ∧ (a = 32 ∨ sp a = false)) : NmC (sgn a) := by
  unfold sgn
  split
  · exact ⟨by decide, by decide +kernel, by decide, by decide⟩
  · rename_i h1
    split
    · exact ⟨by decide, by decide +kernel, by decide, by decide⟩
    · rename_i h2
      simp only [List.mem_cons, List.not_mem_nil, or_false, not_or] at h1
      exact ⟨h.1, h.2.resolve_left h2, h1.2.2.2.2.1, h1.2.1⟩
structure Good3 (al : Str × Str × Str) : Prop where
  g1 : Good al.1
  g2 : Good al.2.1
  g3 : Good al.2.2
  l1 : al.1.length ≤ 100
  l2 : al.2.1.length ≤ 100
  l3 : al.2.2.length ≤ 100
theorem Good3.mem {al : Str × Str × Str} (h : Good3 al) : ∀ a ∈ [al.1, al.2.1, al.2.2], Good a ∧ a.length ≤ 100 := fun a ha => by
  simp only [List.mem_cons, List.not_mem_nil, or_false] at ha
  rcases ha with rfl | rfl | rfl
  · exact ⟨h.g1, h.l1⟩
  · exact ⟨h.g2, h.l2⟩
  · exact ⟨h.g3, h.l3⟩
theorem joined_chars {al : Str × Str × Str} (h : Good3 al) : ∀ c ∈ ls (joinedL al), NmC c := fun c hc => by
  rw [ls_joined] at hc
  rcases jn_mem _ c hc with rfl | ⟨p, hp, hc⟩
  · exact ⟨by decide, by decide +kernel, by decide, by decide⟩
  · obtain ⟨a, ha, rfl⟩ := List.mem_map.mp hp
    obtain ⟨b, hb, rfl⟩ := saidN_mem _ c hc
    exact sgn_nm ((h.mem a (List.mem_filter.mp ha).1).1 b hb)
theorem said_len {al : Str × Str × Str} (h : Good3 al) : ∀ x ∈ saidL al, x.length ≤ 100 := fun x hx => by
  obtain ⟨a, ha, rfl⟩ := List.mem_map.mp hx
  rw [← len_ls, ls_saidT]
  refine Nat.le_trans (saidN_len _) ?_
  rw [len_ls]
  exact (h.mem a (List.mem_filter.mp ha).1).2
theorem joined_len {al : Str × Str × Str} (h : Good3 al) : (joinedL al).length ≤ 400 := by
  have h1 := StrLaws.join_length_le (S "-") (saidL al)
  have h2 := sum_le (B := 100) _ (said_len h)
  have h3 : (saidL al).length ≤ 3 := by
    unfold saidL
    rw [List.length_map]
    exact List.length_filter_le _ _
  have h4 := Nat.mul_le_mul_right 100 h3
  have h5 : (S "-").length = 1 := rfl
  rw [h5] at h1
  show (Builtin.Str.glued _ _).length ≤ _
  rw [StrLaws.glued_eq_join]
  omega
theorem sqz_mem : ∀ (l : List Nat), ∀ c ∈ sqz l, c ∈ l
  | [], c, hc => hc
  | a :: l, c, hc => by
    unfold sqz at hc
    split at hc
    · exact .tail _ (sqz_mem l c hc)
    · rcases List.mem_cons.mp hc with rfl | hc
      · exact .head _
      · exact .tail _ (sqz_mem l c hc)
theorem trl_mem : ∀ (l : List Nat), ∀ c ∈ trl l, c ∈ l
  | [], c, hc => hc
  | a :: l, c, hc => by
    unfold trl at hc
    split at hc
    · exact nomatch hc
    · rcases List.mem_cons.mp hc with rfl | hc
      · exact .head _
      · exact .tail _ (trl_mem l c hc)
theorem sqz_len : ∀ (l : List Nat), (sqz l).length ≤ l.length
  | [] => Nat.le_refl _
  | a :: l => by
    unfold sqz
    have := sqz_len l
    split
    · simp only [List.length_cons]; omega
    · simp only [List.length_cons]; omega
theorem trl_len : ∀ (l : List Nat), (trl l).length ≤ l.length
  | [] => Nat.le_refl _
  | a :: l => by
    unfold trl
    have := trl_len l
    split
    · simp
    · simp only [List.length_cons]; omega
/-- the name -/
noncomputable abbrev nameS (al : Str × Str × Str) : Str := platS al.1 al.2.1 al.2.2
theorem name_ls {al : Str × Str × Str} (h : Good3 al) : ls (nameS al) = trl (sqz (ls (joinedL al))) := by
  show ls (platS al.1 al.2.1 al.2.2) = _
  rw [plat_fold h.l1 h.l2 h.l3, ls_foldS, fold_eq]
  rfl
theorem name_chars {al : Str × Str × Str} (h : Good3 al) : ∀ c ∈ ls (nameS al), NmC c := fun c hc => by
  rw [name_ls h] at hc
  exact joined_chars h c (sqz_mem _ c (trl_mem _ c hc))
theorem name_len {al : Str × Str × Str} (h : Good3 al) : (nameS al).length ≤ 400 := by
  rw [← len_ls, name_ls h]
  have h1 := trl_len (sqz (ls (joinedL al)))
  have h2 := sqz_len (ls (joinedL al))
  have h3 := joined_len h
  rw [← len_ls] at h3
  omega
noncomputable abbrev mkS (l : List Nat) : Str := ⟨l.toArray⟩
theorem ls_mk (l : List Nat) : ls (mkS l) = l := by simp [ls, mkS]
theorem mkS_ls (l : List Nat) : mkS l = ⟨l.toArray⟩ := rfl
/-- the texts so far, as the parse holds them -/
noncomputable def held (res : List Str) (L : List Str) : HSt := (res ++ L.dropLast, L.getLastD (S ""), false, false)
theorem held_cons (res : List Str) (q a : Str) (L : List Str) : held res (q :: a :: L) = held (res ++ [q]) (a :: L) := by
  unfold held
  simp [List.dropLast, List.getLastD]
theorem run_commas : ∀ (l : List Nat) (res : List Str) (q : Str), 34 ∉ l → ∀ p r, splK [44] 0 l = p :: r → hf (res, q, false, false) l = held res ((q ++ mkS p) :: r.map mkS)
  | [], res, q, _, p, r, e => by
    unfold splK at e
    injection e with e1 e2
    subst e1 e2
    rw [hf_nil, show q ++ mkS [] = q from app_nil q]
    unfold held
    simp
  | c :: l, res, q, h, p, r, e => by
    have h2 : 34 ∉ l := fun z => h (.tail _ z)
    obtain ⟨p', r', e'⟩ := splK_ne [44] l 0
    by_cases hc : c = 44
    · subst hc
      have e3 : splK [44] 0 (44 :: l) = [] :: splK [44] 0 l := by
        conv => lhs; unfold splK
        simp [List.isPrefixOf]
      rw [e3, e'] at e
      injection e with e1 e2
      subst e1 e2
      rw [hf_cons]
      show hf (hstep (res, q, false, false) 44) l = _
      rw [st_comma, run_commas l _ _ h2 p' r' e', List.map_cons, show q ++ mkS [] = q from app_nil q, held_cons, empty_app]
    · have hq : c ≠ 34 := fun z => h (z ▸ .head _)
      have e3 : splK [44] 0 (c :: l) = (c :: p') :: r' := by
        conv => lhs; unfold splK
        have : ([44] : List Nat).isPrefixOf (c :: l) = false := by simp [List.isPrefixOf]; exact fun z => hc z.symm
        rw [this, e']; simp
      rw [e3] at e
      injection e with e1 e2
      subst e1 e2
      rw [hf_cons, st_bare hc hq, run_commas l _ _ h2 p' r' e', app_one]
theorem run_in {res : List Str} : ∀ (l : List Nat) (p : Str), (∀ c ∈ l, c ≠ 92 ∧ c ≠ 34) → hf (res, p, false, true) l = (res, p ++ mkS l, false, true)
  | [], p, _ => by rw [hf_nil]; exact congrArg (fun z => (res, z, false, true)) (app_nil p).symm
  | n :: l, p, h => by
    rw [hf_cons, st_in (h n (.head _)).1 (h n (.head _)).2, run_in l _ fun c hc => h c (.tail _ hc), app_one]
theorem strip_plain {x : Str} (h : ∀ c ∈ ls x, sp c = false) : Txt.strip x = x := by
  refine str_ext ?_
  rw [strip_ls]
  rcases List.eq_nil_or_concat (ls x) with hx | ⟨n, z, hx⟩
  · rw [hx]; rfl
  · rw [List.concat_eq_append] at hx
    cases hl : ls x with
    | nil => rw [hl] at hx; exact absurd hx (by simp)
    | cons a m =>
      rw [← hl]
      exact trim_keep (a := a) (m := m) hl (h a (by rw [hl]; exact .head _)) hx (h z (by rw [hx]; simp))
theorem mk_split (x : Str) : Txt.split x (S ",") = (splK [44] 0 (ls x)).map mkS := by
  have e := split_ls (x := x) (y := S ",") (by decide) (by decide +kernel)
  rw [show ls (S ",") = [44] from rfl] at e
  rw [← e, List.map_map]
  conv => lhs; rw [← List.map_id (Txt.split x (S ","))]
  exact List.map_congr_left fun a _ => (mk_ls a).symm
/-- the name, read at its commas -/
theorem commas {x : Str} (h : ∀ c ∈ ls x, NmC c) : hend (hrun (KStt.codes x)) = partsL x := by
  obtain ⟨p, r, e⟩ := splK_ne [44] (ls x) 0
  have eP : Txt.split x (S ",") = mkS p :: r.map mkS := by rw [mk_split, e]; rfl
  have hrunE : hrun (KStt.codes x) = held [] (Txt.split x (S ",")) := by
    rw [hrun_ls, run_commas (ls x) [] (S "") (fun q => (h 34 q).2.2.1 rfl) p r e, empty_app, eP]
  have hst : ∀ y ∈ Txt.split x (S ","), Txt.strip y = y := fun y hy => strip_plain fun c hc => (h c (split_mem (by decide) (by decide +kernel) y hy c hc)).2.1
  have hn := split_ne x (S ",")
  unfold partsL
  rw [hrunE]
  unfold hend held
  dsimp only
  have hlast : (Txt.split x (S ",")).getLastD (S "") = (Txt.split x (S ",")).getLast hn := by
    rw [List.getLastD_eq_getLast?, List.getLast?_eq_some_getLast hn]; rfl
  rw [hlast, List.nil_append]
  have idm : ∀ M : List Str, (∀ y ∈ M, y ∈ Txt.split x (S ",")) → M.map Txt.strip = M := fun M hM => by
    conv => rhs; rw [← List.map_id M]
    exact List.map_congr_left fun a ha => hst a (hM a ha)
  split
  · exact idm _ fun y hy => List.dropLast_subset _ hy
  · rw [List.dropLast_concat_getLast hn]
    exact idm _ fun y hy => hy
/-- in quotes it is one item -/
theorem one_item {x : Str} (h : ∀ c ∈ ls x, NmC c) : hend (hrun (KStt.codes (S "\"" ++ x ++ S "\""))) = [S "\"" ++ x ++ S "\""] := by
  have hl : ls (S "\"" ++ x ++ S "\"") = 34 :: (ls x ++ [34]) := by rw [ls_app, ls_app]; rfl
  have e : hrun (KStt.codes (S "\"" ++ x ++ S "\"")) = ([], S "\"" ++ x ++ S "\"", false, false) := by
    rw [hrun_ls, hl, hf_cons]
    show hf (hstep ([], S "", false, false) 34) _ = _
    rw [st_open, hf_app, run_in (ls x) _ fun c hc => ⟨(h c hc).2.2.2, (h c hc).2.2.1⟩, hf_cons, hf_nil]
    show hstep (([] : List Str), _, false, true) 34 = _
    rw [st_close]
    refine congrArg (fun z => (([] : List Str), z, false, false)) (str_ext ?_)
    rw [hl, ls_app, ls_app, ls_mk]
    rfl
  rw [e]
  unfold hend
  dsimp only
  rw [if_neg (fun q => by
    have := congrArg (fun z => (ls z).length) (beq_iff_eq.mp q)
    have z : (ls (Str.ofString "")).length = 0 := rfl
    rw [hl, z] at this
    exact absurd this (by simp))]
  show [Txt.strip _] = _
  congr 1
  refine str_ext ?_
  rw [strip_ls]
  exact trim_keep (a := 34) (m := ls x ++ [34]) (z := 34) (n := 34 :: ls x) hl (by decide +kernel) (by rw [hl]; rfl) (by decide +kernel)
end
section
open PySem PySem.W PyProof.Rows PySem.Calls PySem.Spec
open PySem PyProof.Rows
/-- plain signs from the blank on -/
noncomputable def Plain (x : Str) : Prop := ∀ c ∈ ls x, 32 ≤ c ∧ c < 127
theorem sp_plain : ∀ c, c < 127 → 32 < c → sp c = false := by
  have : ∀ c : Fin 127, 32 < c.val → sp c.val = false := by decide +kernel
  exact fun c h => this ⟨c, h⟩
theorem Plain.good {x : Str} (h : Plain x) : Good x := fun c hc => by
  obtain ⟨h1, h2⟩ := h c hc
  refine ⟨by omega, ?_⟩
  rcases Nat.lt_or_ge 32 c with h3 | h3
  · exact .inr (sp_plain c h2 h3)
  · exact .inl (by omega)
theorem sys_plain {k : Nat} {y : Str} (h : sysL[k]? = some y) : Plain y ∧ y.length ≤ 100 ∧ 44 ∉ ls y := by
  have hm := List.mem_of_getElem? h
  simp only [sysL, List.mem_cons, List.not_mem_nil, or_false] at hm
  rcases hm with rfl | rfl | rfl | rfl | rfl | rfl | rfl <;> exact ⟨by unfold Plain; decide, by decide, by decide⟩
/-- a version told bare bears no comma -/
theorem ver_plain {k : Nat} {y : Str} (h : verL[k]? = some y) : Plain y ∧ y.length ≤ 100 ∧ (34 ∉ ls y → 44 ∉ ls y) := by
  have hm := List.mem_of_getElem? h
  simp only [verL, List.mem_cons, List.not_mem_nil, or_false] at hm
  rcases hm with rfl | rfl | rfl | rfl | rfl | rfl | rfl | rfl <;> exact ⟨by unfold Plain; decide, by decide, by decide⟩
theorem fig3_all : ∀ n : Fin 120, (ls (fig ((n.val : Nat) - 3 : Int))).all (fun c => decide (32 ≤ c) && decide (c < 127)) = true ∧ (fig ((n.val : Nat) - 3 : Int)).length ≤ 3 := by decide +kernel
theorem fig3_plain {i : Int} (h : 0 ≤ i ∧ i < 120) : Plain (fig (i - 3)) ∧ (fig (i - 3)).length ≤ 3 := by
  obtain ⟨n, rfl⟩ : ∃ n : Nat, i = (n : Int) := ⟨i.toNat, by omega⟩
  obtain ⟨a, b⟩ := fig3_all ⟨n, by omega⟩
  refine ⟨fun x hx => ?_, b⟩
  have := List.all_eq_true.mp a x hx
  rw [Bool.and_eq_true, decide_eq_true_iff, decide_eq_true_iff] at this
  exact this
theorem rest_len (i j : Int) : (relRest i j).length ≤ 8 := by
  unfold relRest
  rw [Str.length_append]
  have one : ∀ k : Nat, (restsL.getD k (S "")).length ≤ 4 := fun k => by
    cases h : restsL[k]? with
    | some y => rw [getD_of h]; exact rests_len h
    | none => rw [List.getD_eq_getElem?_getD, h]; decide
  have a := one i.toNat
  have b := one j.toNat
  exact Nat.add_le_add a b
theorem rest_plain (i j : Int) : Plain (relRest i j) := fun c hc => by
  have := (rest_ok i j).2 c hc
  simp only [List.mem_cons, List.not_mem_nil, or_false] at this
  omega
theorem plain_app {a b : Str} (ha : Plain a) (hb : Plain b) : Plain (a ++ b) := fun c hc => by
  rw [ls_app] at hc
  rcases List.mem_append.mp hc with hc | hc
  · exact ha c hc
  · exact hb c hc
section
variable {i1 i2 i3 i4 : Int}
theorem rel_plain (h1 : 0 ≤ i1 ∧ i1 < 8) (h2 : 0 ≤ i2 ∧ i2 < 120) : Plain (relText i1 i2 i3 i4) ∧ 44 ∉ ls (relText i1 i2 i3 i4) :=
  ⟨fun c hc => ⟨(rel_chars h1 h2 c hc).1, (rel_chars h1 h2 c hc).2.1⟩, fun q => (rel_chars h1 h2 44 q).2.2 rfl⟩
theorem rel_len (h2 : 0 ≤ i2 ∧ i2 < 120) : (relText i1 i2 i3 i4).length ≤ 100 := by
  unfold relText
  rw [Str.length_append]
  have b := rest_len i3 i4
  have a : ((headsL i2).getD i1.toNat (S "")).length ≤ 4 := by
    cases h : (headsL i2)[i1.toNat]? with
    | some y => rw [getD_of h]; exact heads_len (fig_len h2) h
    | none => rw [List.getD_eq_getElem?_getD, h]; decide
  exact Nat.le_trans (Nat.add_le_add a b) (by decide)
theorem mv_plain (h1 : 0 ≤ i1 ∧ i1 < 8) (h2 : 0 ≤ i2 ∧ i2 < 120) {x : Str} (h : relMv i1 i2 i3 i4 = some x) : Plain x ∧ x.length ≤ 100 := by
  unfold relMv at h
  split at h
  · cases h
  · split at h
    · injection h with h
      subst h
      have a := fig3_plain h2
      refine ⟨plain_app a.1 (rest_plain i3 i4), ?_⟩
      have b := rest_len i3 i4
      have c := a.2
      rw [Str.length_append]; omega
    · injection h with h
      subst h
      exact ⟨(rel_plain h1 h2).1, rel_len h2⟩
/-- the three that are due -/
theorem due_good (h1 : 0 ≤ i1 ∧ i1 < 8) (h2 : 0 ≤ i2 ∧ i2 < 120) {sys ver : Str} {ks kv : Nat} (hs : sysL[ks]? = some sys) (hv : verL[kv]? = some ver) : Good3 (al3 sys (relText i1 i2 i3 i4) (relMv i1 i2 i3 i4) ver) := by
  have S1 := sys_plain hs
  have V1 := ver_plain hv
  have R1 := rel_plain (i3 := i3) (i4 := i4) h1 h2
  have R2 := rel_len (i1 := i1) (i3 := i3) (i4 := i4) h2
  have base : ∀ z : Str, Plain z → z.length ≤ 100 → Good3 (z, relText i1 i2 i3 i4, ver) := fun z a b => ⟨a.good, R1.1.good, V1.1.good, b, R2, V1.2.1⟩
  have win : Good3 (if (sys == S "win32" || sys == S "win16") = true then (S "Windows", relText i1 i2 i3 i4, ver) else (sys, relText i1 i2 i3 i4, ver)) := by
    split
    · exact base _ (by unfold Plain; decide) (by decide)
    · exact base _ S1.1 S1.2.1
  unfold al3
  cases hx : relMv i1 i2 i3 i4 with
  | none => cases sys == S "SunOS" <;> exact win
  | some x =>
    cases sys == S "SunOS" with
    | false => exact win
    | true =>
      have M := mv_plain h1 h2 hx
      show Good3 (S "Solaris", x, ver)
      exact ⟨Plain.good (show Plain (S "Solaris") by unfold Plain; decide), M.1.good, V1.1.good, show (S "Solaris").length ≤ 100 by decide, M.2, V1.2.1⟩
end
end
section
open PySem PySem.W PyProof.Rows PySem.Calls PySem.Spec
/-- the told table's pairs -/
noncomputable def toldD (sys rel ver : Str) : List (PyData × PyData) := [(.str (Str.ofString "system"), .str sys), (.str (Str.ofString "release"), .str rel), (.str (Str.ofString "version"), .str ver)]
theorem told_look {sys rel ver key : Str} (h : key ∈ keyL) : PySem.Spec.lookup (PyData.str key) (toldD sys rel ver) = some (.str (tlF sys rel ver key)) := by
  simp only [keyL, List.mem_cons, List.not_mem_nil, or_false] at h
  rcases h with rfl | rfl | rfl
  · simp [toldD, PySem.Spec.lookup, same_str, ess, tl_s]
  · simp [toldD, PySem.Spec.lookup, same_str, esr, err, tl_r]
  · simp [toldD, PySem.Spec.lookup, same_str, esv, erv, evv, tl_v]
theorem tl_cases {P : Str → Prop} {sys rel ver : Str} (h1 : P sys) (h2 : P rel) (h3 : P ver) (k : Str) : P (tlF sys rel ver k) := by
  unfold tlF
  split
  · exact h1
  · split
    · exact h2
    · exact h3
noncomputable abbrev oldV : Str := Str.ofString "old, \"older\""
theorem old_bare {way : Int} : bareC oldV way → 44 ∉ ls oldV := fun h => absurd (no_quote h.2.2.2) (by decide)
section
variable {w : World} {cn : Str} {cs : Scope} {L0 a : Addr} {ccd : Value} {L : Addr} {g : Heap} {s : Shared} {Q : Flow → Shared → Prop} {E : Value → Shared → Prop} {mean : ExcName → Option Value} {mg mb : Str → Option Value} {base : Heap}
  {Dt dt lk lv ly : Addr} {r : Str → Option Value} {c1 c2 c3 c4 od : Obj} {ps : Array Value} {news : List (Addr × Obj)} {way old kind which i1 i2 i3 i4 : Int} {u7 u9 uk uw tm tr : Tok} {vk vv vy vt : List Value} {nk nv ny nt : Nat} {k1 k2 k3 sys ver : Str}
set_option maxRecDepth 100000 in
set_option maxHeartbeats 2000000 in
theorem m_rest (G' : G2 w mean mg mb (A1 cn cs L0 a ccd) base [envOf cn cs L0 a ccd] g) (F : Fr g L s.heap (mM Dt (mvV (relMv i1 i2 i3 i4) tm) (.str (relText i1 i2 i3 i4) tr) (.int kind uk) (.int which uw) ly lv r))
    (N : News g L s.heap ((Dt, listOf vt.toArray nt) :: (dt, od) :: (lk, listOf vk.toArray nk) :: (lv, listOf vv.toArray nv) :: (ly, listOf vy.toArray ny) :: (L + 1 + 1 + 1 + 1, c1) :: (L + 1 + 1 + 1, c2) :: (L + 1 + 1, c3) :: (L + 1, c4) :: (23, tabObj ps) :: news))
    (d1 : c1.data = .cell (some (.ref dt))) (d2 : c2.data = .cell (some (.int old u9))) (d3 : c3.data = .cell (some (.int way u7))) (d4 : c4.data = .cell (some (.ref lk)))
    (hvk : StrsAre vk keyL) (hvt : StrsAre vt [k1, k2, k3]) (hr : Rot k1 k2 k3) (hvy : StrsAre vy sysL) (hvv : StrsAre vv verL)
    (b1 : 0 ≤ kind ∧ kind < 7) (b2 : 0 ≤ i1 ∧ i1 < 8) (b3 : 0 ≤ i2 ∧ i2 < 120) (b6 : 0 ≤ which ∧ which < 8) (b9 : 0 ≤ old ∧ old < 3) (hsys : sysL[kind.toNat]? = some sys) (hver : verL[which.toNat]? = some ver)
    {kvs : List (Str × Value)} (hod : od.IsDictOf (strKind PP w) kvs) (hfd : PyProof.V.FlatPairs PyData.str kvs (toldD sys (relText i1 i2 i3 i4) ver)) (hlo : (dt == sysModules) = false)
    (hps : TabOk PO ps) (hG : AllBare s.gens) (hn23 : ∀ p ∈ news, p.1 ≠ 23)
    (done : ∀ (g₁ : Heap) (s' : Shared) (ps' : Array Value) (m' : Str → Option Value), KtsTurn (([envOf cn cs L0 a ccd] : List Env).filterMap (·.frame)) g g₁ → Fr g₁ L s'.heap m' → News g₁ L s'.heap ((23, tabObj ps') :: news) → TabOk PO ps' → AllBare s'.gens → s'.os = s.os → Q (.ret (.bool true)) s') :
    wpC (model PP w) (mA cn cs L0 a ccd L) (execs (mBody.drop 7) (mEnv L)) Q E s := by
  have SY := sys_plain hsys
  have VE := ver_plain hver
  have RE := rel_plain (i3 := i3) (i4 := i4) b2 b3
  have RL := rel_len (i1 := i1) (i3 := i3) (i4 := i4) b3
  have RW := rel_law (i3 := i3) (i4 := i4) b2 b3
  have DG := due_good (i3 := i3) (i4 := i4) b2 b3 hsys hver
  have AL := sysal_al3 (sys := sys) (ver := ver) RW
  generalize relText i1 i2 i3 i4 = rel at *
  generalize relMv i1 i2 i3 i4 = mv at *
  have hlen : ∀ k, (tlF sys rel ver k).length ≤ 100 := fun k => tl_cases (P := fun x => x.length ≤ 100) SY.2.1 RL VE.2.1 k
  have hasc : ∀ k, Asc (tlF sys rel ver k) := fun k => tl_cases (P := Asc) SY.1.good.asc RE.1.good.asc VE.1.good.asc k
  have hbare : ∀ k, bareC (tlF sys rel ver k) way → 44 ∉ ls (tlF sys rel ver k) := fun k => tl_cases (P := fun x => bareC x way → 44 ∉ ls x) (fun _ => SY.2.2) (fun _ => RE.2) (fun h => VE.2.2 (no_quote h.2.2.2)) k
  obtain ⟨m1, m2, m3⟩ := hr.mem
  have kasc : ∀ k ∈ keyL, Asc k := fun k hk c hc => ((key_ok hk).plain c hc).2.2.2
  refine m_head (tl := tlF sys rel ver) G' F N d1 d2 d3 d4 hvk hvt b9 hod hfd hlo (fun key hk => ⟨told_look hk, Nat.le_trans (hlen key) (by decide)⟩) m1 m2 m3 fun h tk Dh k0 a0 a1 a2 a3 hk0 F1 N1 => ?_
  have m0 : k0 ∈ keyL := List.mem_of_getElem? hk0
  obtain ⟨q1, q2, hfil, hkq, n1, n2, l1, l2, l3⟩ := tab9_of (sys := sys) (rel := rel) (ver := ver) (old := oldV) (way := way) hr m0
  have wl : ∀ k v : Str, k ∈ keyL → v.length ≤ 100 → (wr k v way).length ≤ 2000 := fun k v hk hv => by
    have a := wr_len k v way
    have b := key_len2 hk
    omega
  have pl : ∀ k v : Str, k ∈ keyL → v.length ≤ 100 → (pieceS k v way).length ≤ 1000 := fun k v hk hv => by
    have a := piece_len k v way
    have b := key_len2 hk
    omega
  have ol : oldV.length ≤ 100 := by decide
  refine m_facts (s := { s with heap := _, toks := _ }) G' F1 N1 (wl k0 oldV m0 ol) (wl k1 _ m1 (hlen k1)) (wl k2 _ m2 (hlen k2)) (wl k3 _ m3 (hlen k3))
    (xs := [pieceS k0 oldV way, pieceS k1 (tlF sys rel ver k1) way, pieceS k2 (tlF sys rel ver k2) way, pieceS k3 (tlF sys rel ver k3) way]) (kps := kps4 (tlF sys rel ver) oldV way k0 k1 k2 k3)
    (http4 (key_ok m0) (key_ok m1) (key_ok m2) (key_ok m3) old_bare (hbare k1) (hbare k2) (hbare k3)) rfl ?hx (show 4 ≤ 10 by decide) fun h tk df of kf r' hof hff hlf F2 N2 => ?_
  case hx =>
    have sp1 : ∀ k v : Str, k ∈ keyL → Txt.splitMax (pieceS k v way) (Str.ofString "=") 1 = [k, valS v way] := fun k v hk => split_one fun q => ((key_ok hk).plain 61 q).2.2.1 rfl
    intro i x p hi hp
    match i, hi, hp with
    | 0, hi, hp => rw [← Option.some.inj hi, ← Option.some.inj hp]; exact ⟨sp1 k0 _ m0, val_ne _ _, pl k0 _ m0 ol⟩
    | 1, hi, hp => rw [← Option.some.inj hi, ← Option.some.inj hp]; exact ⟨sp1 k1 _ m1, val_ne _ _, pl k1 _ m1 (hlen k1)⟩
    | 2, hi, hp => rw [← Option.some.inj hi, ← Option.some.inj hp]; exact ⟨sp1 k2 _ m2, val_ne _ _, pl k2 _ m2 (hlen k2)⟩
    | 3, hi, hp => rw [← Option.some.inj hi, ← Option.some.inj hp]; exact ⟨sp1 k3 _ m3, val_ne _ _, pl k3 _ m3 (hlen k3)⟩
    | i + 4, hi, hp => exact absurd hi (by simp)
  rw [hkq] at hff
  refine m_order (s := { s with heap := _, toks := _ }) G' F2 N2 d1 d2 d3 d4 hvk hvt b9 hk0 hfil fun h tk Do no e0 e1 e2 F3 N3 => ?_
  refine m_items (s := { s with heap := _, toks := _ }) G' F3 N3 d1 d2 d3 d4 hod hfd hlo (told_look m0) (told_look n1) (told_look n2) hof hff hlf (kasc k0 m0) (kasc q1 n1) (kasc q2 n2) (hasc k0) (hasc q1) (hasc q2) fun h tk F4 N4 => ?_
  refine m_due (s := { s with heap := _, toks := _ }) G' F4 N4 hvy hvv b1 b6 hsys hver fun h tk D t1 t2 t3 n r' F5 N5 => ?_
  refine m_alias (s := { s with heap := _, toks := _ }) G' F5 N5 hof hff hlf l1 l2 l3 SY.2.1 RL VE.2.1 (fun c hc => RE.1.good.asc c hc) ?hi (split_mem (by decide) dot_kind) AL DG.g1.asc DG.g2.asc DG.g3.asc hps hG hn23 DG.l1 DG.l2 DG.l3 fun g₁ s' ps' tn r' T G1 F6 N6 hps' hG' hos => ?_
  case hi =>
    intro hnl h t n
    rcases RW with ⟨hlow, _⟩ | ⟨_, x, _, _, hh⟩
    · exact absurd hlow hnl
    · exact hh h t n
  have nc := name_chars DG
  refine m_name G1 F6 N6 DG.l1 DG.l2 DG.l3 (plat_fold DG.l1 DG.l2 DG.l3) (Nat.le_trans (joined_len DG) (by decide)) (fun p hp c hc => (joined_chars DG c (split_mem (by decide) (by decide +kernel) p hp c hc)).1) (fun x hx => Nat.le_trans (said_len DG x hx) (by decide)) fun h tk r' F7 N7 => ?_
  exact m_end (s := { s' with heap := _, toks := _ }) G1 F7 N7 (Nat.le_trans (name_len DG) (by decide)) (commas nc) (one_item nc) (fun p hp c hc => (nc c (split_mem (by decide) (by decide +kernel) p hp c hc)).1) (fun c hc => (nc c hc).1) fun h tk m' F8 N8 => done g₁ _ ps' m' T F8 N8 hps' hG' hos
end
end
section
open PySem PySem.W PyProof.Rows PySem.Calls PySem.Spec
noncomputable abbrev mU (mv rel kind which : Value) (ly lv : Addr) (r : Str → Option Value) : Str → Option Value := fun y =>
  if y = Str.ofString "moved" then some mv else if y = Str.ofString "release" then some rel else if y = Str.ofString "which" then some which else if y = Str.ofString "kind" then some kind else if y = Str.ofString "versions" then some (.ref lv) else if y = Str.ofString "systems" then some (.ref ly) else r y
theorem mU_of {m : Str → Option Value} {mv rel kind which : Value} {ly lv : Addr} (h2 : m (Str.ofString "moved") = some mv) (h3 : m (Str.ofString "release") = some rel) (h4 : m (Str.ofString "which") = some which) (h5 : m (Str.ofString "kind") = some kind) (h6 : m (Str.ofString "versions") = some (.ref lv)) (h7 : m (Str.ofString "systems") = some (.ref ly)) :
    m = mU mv rel kind which ly lv m := by
  funext y
  unfold mU
  by_cases e2 : y = Str.ofString "moved"
  · rw [if_pos e2, e2, h2]
  rw [if_neg e2]
  by_cases e3 : y = Str.ofString "release"
  · rw [if_pos e3, e3, h3]
  rw [if_neg e3]
  by_cases e4 : y = Str.ofString "which"
  · rw [if_pos e4, e4, h4]
  rw [if_neg e4]
  by_cases e5 : y = Str.ofString "kind"
  · rw [if_pos e5, e5, h5]
  rw [if_neg e5]
  by_cases e6 : y = Str.ofString "versions"
  · rw [if_pos e6, e6, h6]
  rw [if_neg e6]
  by_cases e7 : y = Str.ofString "systems"
  · rw [if_pos e7, e7, h7]
  rw [if_neg e7]
theorem fr_mT {g h : Heap} {L : Addr} {m : Str → Option Value} {tv mv rel kind which : Value} {ly lv : Addr} (F : Fr g L h m) (h1 : m (Str.ofString "turn") = some tv) (h2 : m (Str.ofString "moved") = some mv) (h3 : m (Str.ofString "release") = some rel) (h4 : m (Str.ofString "which") = some which) (h5 : m (Str.ofString "kind") = some kind) (h6 : m (Str.ofString "versions") = some (.ref lv)) (h7 : m (Str.ofString "systems") = some (.ref ly)) :
    ∃ r : Str → Option Value, Fr g L h (fun y => if y = Str.ofString "turn" then some tv else mU mv rel kind which ly lv r y) := by
  refine ⟨m, ?_⟩
  have e : m = fun y => if y = Str.ofString "turn" then some tv else mU mv rel kind which ly lv m y := by
    rw [← mU_of h2 h3 h4 h5 h6 h7]
    funext y
    by_cases e1 : y = Str.ofString "turn"
    · rw [if_pos e1, e1, h1]
    · rw [if_neg e1]
  exact e ▸ F
theorem fr_mM {g h : Heap} {L Dt : Addr} {tv mv rel kind which : Value} {ly lv : Addr} {r : Str → Option Value} (F : Fr g L h (fun y => if y = Str.ofString "turned" then some (.ref Dt) else if y = Str.ofString "turn" then some tv else mU mv rel kind which ly lv r y)) :
    ∃ r : Str → Option Value, Fr g L h (mM Dt mv rel kind which ly lv r) := by
  refine ⟨fun y => if y = Str.ofString "turn" then some tv else mU mv rel kind which ly lv r y, ?_⟩
  have e : (fun y => if y = Str.ofString "turn" then some tv else mU mv rel kind which ly lv r y) = mU mv rel kind which ly lv (fun y => if y = Str.ofString "turn" then some tv else mU mv rel kind which ly lv r y) := mU_of rfl rfl rfl rfl rfl rfl
  have e2 : (fun y => if y = Str.ofString "turned" then some (Value.ref Dt) else if y = Str.ofString "turn" then some tv else mU mv rel kind which ly lv r y) = mM Dt mv rel kind which ly lv (fun y => if y = Str.ofString "turn" then some tv else mU mv rel kind which ly lv r y) := by
    funext y
    show (if y = Str.ofString "turned" then _ else _) = (if y = Str.ofString "turned" then _ else _)
    by_cases e1 : y = Str.ofString "turned"
    · rw [if_pos e1, if_pos e1]
    · rw [if_neg e1, if_neg e1]
      exact congrFun e y
  exact e2 ▸ F
section
variable {w : World} {cn : Str} {cs : Scope} {L0 a : Addr} {ccd : Value} {L : Addr} {g : Heap} {s : Shared} {Q : Flow → Shared → Prop} {E : Value → Shared → Prop} {mean : ExcName → Option Value} {mg mb : Str → Option Value} {base : Heap}
  {dt lk lv ly : Addr} {r : Str → Option Value} {c1 c2 c3 c4 od : Obj} {ps : Array Value} {news : List (Addr × Obj)} {way old turn kind which i1 i2 i3 i4 : Int} {u7 u8 u9 uk uw tm tr e1 e2 e3 : Tok} {vv vy : List Value} {nk nv ny : Nat} {sys ver : Str}
set_option maxRecDepth 100000 in
set_option maxHeartbeats 2000000 in
theorem m_turn (G' : G2 w mean mg mb (A1 cn cs L0 a ccd) base [envOf cn cs L0 a ccd] g) (F : Fr g L s.heap (fun y => if y = Str.ofString "turn" then some (.int turn u8) else mU (mvV (relMv i1 i2 i3 i4) tm) (.str (relText i1 i2 i3 i4) tr) (.int kind uk) (.int which uw) ly lv r y))
    (N : News g L s.heap ((dt, od) :: (lk, listOf #[.str (Str.ofString "system") e1, .str (Str.ofString "release") e2, .str (Str.ofString "version") e3] nk) :: (lv, listOf vv.toArray nv) :: (ly, listOf vy.toArray ny) :: (L + 1 + 1 + 1 + 1, c1) :: (L + 1 + 1 + 1, c2) :: (L + 1 + 1, c3) :: (L + 1, c4) :: (23, tabObj ps) :: news))
    (d1 : c1.data = .cell (some (.ref dt))) (d2 : c2.data = .cell (some (.int old u9))) (d3 : c3.data = .cell (some (.int way u7))) (d4 : c4.data = .cell (some (.ref lk)))
    (hvy : StrsAre vy sysL) (hvv : StrsAre vv verL)
    (b1 : 0 ≤ kind ∧ kind < 7) (b2 : 0 ≤ i1 ∧ i1 < 8) (b3 : 0 ≤ i2 ∧ i2 < 120) (b6 : 0 ≤ which ∧ which < 8) (b8 : 0 ≤ turn ∧ turn < 3) (b9 : 0 ≤ old ∧ old < 3) (hsys : sysL[kind.toNat]? = some sys) (hver : verL[which.toNat]? = some ver)
    {kvs : List (Str × Value)} (hod : od.IsDictOf (strKind PP w) kvs) (hfd : PyProof.V.FlatPairs PyData.str kvs (toldD sys (relText i1 i2 i3 i4) ver)) (hlo : (dt == sysModules) = false)
    (hps : TabOk PO ps) (hG : AllBare s.gens) (hn23 : ∀ p ∈ news, p.1 ≠ 23)
    (done : ∀ (g₁ : Heap) (s' : Shared) (ps' : Array Value) (m' : Str → Option Value), KtsTurn (([envOf cn cs L0 a ccd] : List Env).filterMap (·.frame)) g g₁ → Fr g₁ L s'.heap m' → News g₁ L s'.heap ((23, tabObj ps') :: news) → TabOk PO ps' → AllBare s'.gens → s'.os = s.os → Q (.ret (.bool true)) s') :
    wpC (model PP w) (mA cn cs L0 a ccd L) (execs (mBody.drop 6) (mEnv L)) Q E s := by
  (w_top off; k_with_none; (have hz9 : PySem.Challenge.rw_mj0138_01 = PySem.Challenge.rw_mj0138_01 ∧ hd.heap_39 = hd.heap_39 := by (k_fill; exact ⟨rfl, rfl⟩)); clear hz9)
  obtain ⟨B', X', T', XB', TB', D'⟩ := id G'
  clear XB' TB' D'
  have h3 : turn = 0 ∨ turn = 1 ∨ turn = 2 := by omega
  refine wpC_execs_later ?_
  rcases h3 with rfl | rfl | rfl
  all_goals (repeat' (first | (k_unfold; (try dsimp only)) | ((fail_if_success (with_reducible show wpAny _ _ (PySem.eval (Expr.ListComp _ _ _ _) _) _ _ _)); (fail_if_success (with_reducible show wpAny _ _ (PySem.call (Value.ref _) _) _ _ _)); (fail_if_success (with_reducible show wpAny _ _ (subscriptTail _ _ (Value.ref _) (Value.int _ _)) _ _ _)); (fail_if_success (with_reducible show wpAny _ _ (subscriptTail _ _ (Value.ref _) (Value.str _ _)) _ _ _)); (fail_if_success (with_reducible show LCg.CompRest _ _ _ _ _ _ _ _ _ _ _ _ _ _ _ _ _ _ _)); (fail_if_success (with_reducible show LCt.CompRestT _ _ _ _ _ _ _ _ _ _ _ _ _ _ _ _ _ _ _ _)); first | walk1 | (dsimp only; walk1)) | fail "no step"))
  all_goals (
    rename Fr g L _ _ => F1
    rename News g L _ _ => N1
    obtain ⟨r', F2⟩ := fr_mM F1
    have hvk : StrsAre [Value.str (Str.ofString "system") e1, .str (Str.ofString "release") e2, .str (Str.ofString "version") e3] keyL := .cons _ _ (.cons _ _ (.cons _ _ .nil)))
  · exact m_rest (s := { s with heap := _, toks := _ }) (vk := [Value.str (Str.ofString "system") e1, .str (Str.ofString "release") e2, .str (Str.ofString "version") e3]) (vt := [Value.str (Str.ofString "system") e1, .str (Str.ofString "release") e2, .str (Str.ofString "version") e3]) (nt := 0) G' F2 (skip2 N1) d1 d2 d3 d4 hvk (.cons _ _ (.cons _ _ (.cons _ _ .nil))) .r0 hvy hvv b1 b2 b3 b6 b9 hsys hver hod hfd hlo hps hG hn23 done
  · exact m_rest (s := { s with heap := _, toks := _ }) (vk := [Value.str (Str.ofString "system") e1, .str (Str.ofString "release") e2, .str (Str.ofString "version") e3]) (vt := [Value.str (Str.ofString "release") e2, .str (Str.ofString "version") e3, .str (Str.ofString "system") e1]) (nt := 0) G' F2 (skip2 N1) d1 d2 d3 d4 hvk (.cons _ _ (.cons _ _ (.cons _ _ .nil))) .r1 hvy hvv b1 b2 b3 b6 b9 hsys hver hod hfd hlo hps hG hn23 done
  · exact m_rest (s := { s with heap := _, toks := _ }) (vk := [Value.str (Str.ofString "system") e1, .str (Str.ofString "release") e2, .str (Str.ofString "version") e3]) (vt := [Value.str (Str.ofString "version") e3, .str (Str.ofString "system") e1, .str (Str.ofString "release") e2]) (nt := 0) G' F2 (skip2 N1) d1 d2 d3 d4 hvk (.cons _ _ (.cons _ _ (.cons _ _ .nil))) .r2 hvy hvv b1 b2 b3 b6 b9 hsys hver hod hfd hlo hps hG hn23 done
end
end
section
open PySem PySem.W PyProof.Rows PySem.Calls PySem.Spec
/-- figures under their sizes, from the head -/
noncomputable def Fg2 : List Int → List Int → Prop
  | [], [] => True
  | n :: ns, k :: ks => (0 ≤ n ∧ n < k) ∧ Fg2 ns ks
  | _, _ => False
theorem Fg2.snoc {n k : Int} (h0 : 0 ≤ n) (h1 : n < k) : ∀ {ns ks : List Int}, Fg2 ns ks → Fg2 (ns ++ [n]) (ks ++ [k])
  | [], [], _ => ⟨⟨h0, h1⟩, trivial⟩
  | _ :: _, _ :: _, h => ⟨h.1, Fg2.snoc h0 h1 h.2⟩
  | [], _ :: _, h => h.elim
  | _ :: _, [], h => h.elim
theorem Figs.two {ns ks : List Int} (h : Figs ns ks) : Fg2 ns ks := by
  induction h with
  | nil => exact trivial
  | snoc _ a b ih => exact ih.snoc a b
theorem Fg2.head {us : List Value} {ns ks : List Int} {k : Int} (hI : IntsAre us ns) (h : Fg2 ns (k :: ks)) : ∃ (f : Int) (u : Tok) (us' : List Value) (ns' : List Int), us = .int f u :: us' ∧ (0 ≤ f ∧ f < k) ∧ IntsAre us' ns' ∧ Fg2 ns' ks := by
  cases hI with
  | nil => exact h.elim
  | cons n u r => exact ⟨n, u, _, _, rfl, h.1, r, h.2⟩
theorem Fg2.last {us : List Value} {ns : List Int} (hI : IntsAre us ns) (h : Fg2 ns []) : us = [] := by
  cases hI with
  | nil => rfl
  | cons n u r => exact h.elim
theorem figs9 {ns : List Int} {us : List Value} (hI : IntsAre us ns) (h : Figs ns sizesI) : ∃ (f1 f2 f3 f4 f5 f6 f7 f8 f9 : Int) (u1 u2 u3 u4 u5 u6 u7 u8 u9 : Tok), us = [.int f1 u1, .int f2 u2, .int f3 u3, .int f4 u4, .int f5 u5, .int f6 u6, .int f7 u7, .int f8 u8, .int f9 u9] ∧
    (0 ≤ f1 ∧ f1 < 7) ∧ (0 ≤ f2 ∧ f2 < 8) ∧ (0 ≤ f3 ∧ f3 < 120) ∧ (0 ≤ f4 ∧ f4 < 5) ∧ (0 ≤ f5 ∧ f5 < 5) ∧ (0 ≤ f6 ∧ f6 < 8) ∧ (0 ≤ f7 ∧ f7 < 3) ∧ (0 ≤ f8 ∧ f8 < 3) ∧ (0 ≤ f9 ∧ f9 < 3) := by
  obtain ⟨f1, u1, us, ns, rfl, b1, hI, h⟩ := Fg2.head hI h.two
  obtain ⟨f2, u2, us, ns, rfl, b2, hI, h⟩ := Fg2.head hI h
  obtain ⟨f3, u3, us, ns, rfl, b3, hI, h⟩ := Fg2.head hI h
  obtain ⟨f4, u4, us, ns, rfl, b4, hI, h⟩ := Fg2.head hI h
  obtain ⟨f5, u5, us, ns, rfl, b5, hI, h⟩ := Fg2.head hI h
  obtain ⟨f6, u6, us, ns, rfl, b6, hI, h⟩ := Fg2.head hI h
  obtain ⟨f7, u7, us, ns, rfl, b7, hI, h⟩ := Fg2.head hI h
  obtain ⟨f8, u8, us, ns, rfl, b8, hI, h⟩ := Fg2.head hI h
  obtain ⟨f9, u9, us, ns, rfl, b9, hI, h⟩ := Fg2.head hI h
  obtain rfl := Fg2.last hI h
  exact ⟨f1, f2, f3, f4, f5, f6, f7, f8, f9, u1, u2, u3, u4, u5, u6, u7, u8, u9, rfl, b1, b2, b3, b4, b5, b6, b7, b8, b9⟩
theorem skip3 {g h : Heap} {L : Addr} {x a b c : Addr × Obj} {rest : List (Addr × Obj)} (N : News g L h (x :: a :: b :: c :: rest)) : News g L h (x :: rest) := fun p hp => by
  rcases List.mem_cons.mp hp with rfl | hp
  · exact N _ (.head _)
  · exact N _ (.tail _ (.tail _ (.tail _ (.tail _ hp))))
theorem fr_back {g g₁ h : Heap} {L : Addr} {m : Str → Option Value} (T : KtsTurn [] g g₁) (F : Fr g₁ L h m) : Fr g L h m := ⟨F.ns, fun b o e => F.keep b o (T.other b o e (by simp)), by rw [← T.size]; exact F.above⟩
theorem news_back {g g₁ h : Heap} {L : Addr} {l : List (Addr × Obj)} (T : KtsTurn [] g g₁) (N : News g₁ L h l) : News g L h l := fun p hp => ⟨(N p hp).1, (N p hp).2.1, by
  cases e : g.get? p.1 with
  | none => rfl
  | some o => have z := T.other p.1 o e (by simp); rw [(N p hp).2.2] at z; cases z⟩
set_option maxRecDepth 100000 in
set_option maxHeartbeats 2000000 in
theorem ct_machine (w : World) (x : Int) (t : Tok) : CtM w x t := by
  (w_top off; k_with_none; (have hz9 : PySem.Challenge.rw_mj0138_01 = PySem.Challenge.rw_mj0138_01 ∧ hd.heap_39 = hd.heap_39 := by (k_fill; exact ⟨rfl, rfl⟩)); clear hz9)
  intro mean mg mb cn cs a ccd base h₀ L m ps news s Q E kG kF0 kN0 kgt kps kga kK hret
  refine wpC_call ?_
  refine' codeC_cells (env := envOf cn cs L a ccd) (binds := [(Str.ofString "x", Value.int x t)]) kG kF0 kN0 rfl rfl kK ?k6 ?k7 ?k8 ?k9 ?kB ?kD ?_ ?c2 ?c3 ?c4
  (case k6 => k_is); (case k7 => k_is); (case k8 => k_room); (case k9 => exact BindsTo.of_eq rfl); (case kB => exact kindsX rfl); (case kD => decide +kernel); (case c2 => exact rfl); (case c3 => exact rfl); (case c4 => exact rfl)
  k_whole; intro g L' h' tk' cells' F0 N0 Y' G' l1
  have F' : Fr g L' h' (fun y => if y = Str.ofString "x" then some (Value.int x t) else none) := F0
  clear F0
  obtain ⟨o1, o2, o3, o4, hE, d1', d2', d3', d4'⟩ := CellsAre.four Y'
  subst hE
  have d1 : o1.data = .cell none := d1'
  have d2 : o2.data = .cell none := d2'
  have d3 : o3.data = .cell none := d3'
  have d4 : o4.data = .cell none := d4'
  clear d1' d2' d3' d4' Y'
  have N' : News g L' h' ((L' + 1 + 1 + 1 + 1, o1) :: (L' + 1 + 1 + 1, o2) :: (L' + 1 + 1, o3) :: (L' + 1, o4) :: (23, tabObj ps) :: news) := N0
  clear N0
  have l23 : @LT.lt Nat _ 23 L' := l1 _ (.head _)
  have lnews : AllLt L' news := allLt_of fun p hp => l1 p (.tail _ hp)
  clear l1
  obtain ⟨B', X', T', XB', TB', D'⟩ := id G'
  clear XB' TB' D'
  refine wpC_execs_later ?_
  (repeat' (first | (k_unfold; (try dsimp only)) | ((fail_if_success (with_reducible show wpAny _ _ (PySem.call (Value.ref _) _) _ _ _)); first | walk1 | (dsimp only; walk1)) | fail "no step"))
  refine wpC_execs_later ?_
  (repeat' (first | (k_unfold; (try dsimp only)) | ((fail_if_success (with_reducible show wpAny _ _ (PySem.call (Value.ref _) _) _ _ _)); first | walk1 | (dsimp only; walk1)) | fail "no step"))
  refine wpC_execs_later ?_
  (repeat' (first | (k_unfold; (try dsimp only)) | ((fail_if_success (with_reducible show wpAny _ _ (PySem.call (Value.ref _) _) _ _ _)); first | walk1 | (dsimp only; walk1)) | fail "no step"))
  refine wpC_execs_later ?_
  (repeat' (first | (k_unfold; (try dsimp only)) | ((fail_if_success (with_reducible show wpAny _ _ (PySem.call (Value.ref _) _) _ _ _)); first | walk1 | (dsimp only; walk1)) | fail "no step"))
  rename Fr g L' _ _ => F1
  rename News g L' _ _ => N1
  refine ct_figures w x t _ _ _ _ _ _ _ _ _ _ _ mean mg mb _ _ _ _ _ _ _ _ _ _ _ _ _ _ _ B' F1 X' N1 T' rfl ⟨_, rfl⟩ ?_
  intro Df us ns nf h2 k2 hI2 hF2 F2 N2 lf
  k_lt lf
  obtain ⟨kind, shape, number, first, second, which, way, turn, old, u1, u2, u3, u4, u5, u6, u7, u8, u9, rfl, b1, b2, b3, b4, b5, b6, b7, b8, b9⟩ := figs9 hI2 hF2
  clear F1 N1 hI2 hF2
  refine kun_list F2 N2 (News.isList N2 (.head _)) rfl rfl rfl fun h3 F3 N3 => ?_
  clear F2 N2
  (repeat' (first | (k_unfold; (try dsimp only)) | ((fail_if_success (with_reducible show wpAny _ _ (PySem.call (Value.ref _) _) _ _ _)); first | walk1 | (dsimp only; walk1)) | fail "no step"))
  refine wpC_execs_later ?_
  (repeat' (first | (k_unfold; (try dsimp only)) | ((fail_if_success (with_reducible show wpAny _ _ (PySem.call (Value.ref _) _) _ _ _)); first | walk1 | (dsimp only; walk1)) | fail "no step"))
  rename Fr g L' _ _ => F4
  rename News g L' _ _ => N4
  refine ct_release w shape number first second _ _ _ _ b2 b3 b4 b5 mean mg mb _ _ _ _ _ _ _ _ _ _ _ _ _ _ _ B' F4 X' N4 T' rfl trivial ?_
  intro Dr tr1 tr2 nr h5 k5 F5 N5 lr
  k_lt lr
  clear F4 N4
  generalize hrel : relText shape number first second = rel at F5 N5
  generalize hmv : relMv shape number first second = mvd at F5 N5
  (repeat' (first | (k_unfold; (try dsimp only)) | ((fail_if_success (with_reducible show wpAny _ _ (PySem.call (Value.ref _) _) _ _ _)); first | walk1 | (dsimp only; walk1)) | fail "no step"))
  refine wpC_execs_later ?_
  (repeat' (first | (k_unfold; (try dsimp only)) | ((fail_if_success (with_reducible show wpAny _ _ (PySem.call (Value.ref _) _) _ _ _)); (fail_if_success (with_reducible show wpAny _ _ (subscriptTail _ _ (Value.ref _) (Value.int _ _)) _ _ _)); first | walk1 | (dsimp only; walk1)) | fail "no step"))
  rename Fr g L' _ _ => F6
  rename News g L' _ _ => N6
  refine item_sa (xs := sysL) (News.isList N6 (by k_mem)) (.cons _ _ (.cons _ _ (.cons _ _ (.cons _ _ (.cons _ _ (.cons _ _ (.cons _ _ .nil))))))) b1.1 (by simpa using b1.2) (by omega) fun sys ts hsys => ?_
  (repeat' (first | (k_unfold; (try dsimp only)) | ((fail_if_success (with_reducible show wpAny _ _ (PySem.call (Value.ref _) _) _ _ _)); (fail_if_success (with_reducible show wpAny _ _ (subscriptTail _ _ (Value.ref _) (Value.int _ _)) _ _ _)); first | walk1 | (dsimp only; walk1)) | fail "no step"))
  rename Fr g L' _ _ => F7
  rename News g L' _ _ => N7
  refine item_sa (xs := verL) (News.isList N7 (by k_mem)) (.cons _ _ (.cons _ _ (.cons _ _ (.cons _ _ (.cons _ _ (.cons _ _ (.cons _ _ (.cons _ _ .nil)))))))) b6.1 (by simpa using b6.2) (by omega) fun ver tv hver => ?_
  (repeat' (first | (k_unfold; (try dsimp only)) | ((fail_if_success (with_reducible show wpAny _ _ (PySem.call (Value.ref _) _) _ _ _)); (fail_if_success (with_reducible show wpAny _ _ (subscriptTail _ _ (Value.ref _) (Value.int _ _)) _ _ _)); first | walk1 | (dsimp only; walk1)) | fail "no step"))
  subst hrel hmv
  rename Fr g L' _ _ => F20
  rename News g L' _ _ => N20
  obtain ⟨r', F21⟩ := fr_mT F20 rfl rfl rfl rfl rfl rfl rfl
  rename (_ == sysModules) = false => lo20
  rename (PyProof.V.FlatPairs PyData.str _ _) => hf20
  refine m_turn (s := { s with heap := _, toks := _ }) G' F21 (skip3 N20) (by assumption) (by assumption) (by assumption) (by assumption) (.cons _ _ (.cons _ _ (.cons _ _ (.cons _ _ (.cons _ _ (.cons _ _ (.cons _ _ .nil))))))) (.cons _ _ (.cons _ _ (.cons _ _ (.cons _ _ (.cons _ _ (.cons _ _ (.cons _ _ (.cons _ _ .nil)))))))) b1 b2 b3 b6 b8 b9 hsys hver (by assumption) hf20 lo20 kps kga (fun p hp => Nat.ne_of_gt (kgt p hp)) ?_
  intro g₁ s' ps' m' T Fd Nd hps' hG' hos
  exact ⟨g₁, L', m', _, T, Fd, Nd, fun h₁ T₁ F₁ N₁ _ => hret s' ps' (fr_back T₁ F₁) (news_back T₁ N₁) hps' hG' hos⟩
end
end Mine
end
theorem PySem.Challenge.cw_mj0138_01_holds : PySem.Challenge.rw_mj0138_01.Holds :=
  Mine.law_holds Mine.ct_machine
