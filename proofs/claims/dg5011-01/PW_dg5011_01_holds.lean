import PyProof.Rows.All
import Wide.All
import OpenK.AllK
import Wide.FinOn
import PySem.Challenge.RW_dg5011_01

open PySem PySem.W PyProof.Rows PySem.Spec PySem.Calls
set_option Elab.async false
set_option maxRecDepth 100000

section
namespace Mine

/-- the claim's caller stands on this stack -/
def called (l : List (Code × Pos)) : Bool := l.any fun cp => cp.1.isCaller
def Up (Γ : _root_.PySem.Ctx) : Prop := (Γ.code.isCaller || called Γ.below) = true

/-- wpAny and codeAny, said of the contexts alone that the claim's caller has called -/
def wpC {α : Type} (M : Model) (A : Around) (t : Sem α) (Q : α → Shared → Prop) (E : Value → Shared → Prop) (s : Shared) : Prop :=
  ∀ Γ p, Γ.In A → Up Γ → Sem.wp M Γ t (fun a _ s' => Q a s') (fun e _ s' => E e s') p s
def codeC (M : Model) (A : Around) (c : Code) (R : Result → Shared → Prop) (s : Shared) : Prop :=
  ∀ Γ p, Γ.code = c → Γ.Below A → called Γ.below = true → wpCode M Γ R p s

theorem wpC_any {α : Type} {M : Model} {A : Around} {t : Sem α} {Q : α → Shared → Prop} {E : Value → Shared → Prop} {s : Shared} (h : wpAny M A t Q E s) : wpC M A t Q E s := fun Γ p hΓ _ => h Γ p hΓ
theorem codeC_any {M : Model} {A : Around} {c : Code} {R : Result → Shared → Prop} {s : Shared} (h : codeAny M A c R s) : codeC M A c R s := fun Γ p hc hΓ _ => h Γ p hc hΓ

/-- a tree that looks for the caller first: without it, the plain answer -/
def guarded {α : Type} (a : α) (t : Sem α) : Sem α := .stack fun st => if called st then t else .pure a
theorem guarded_bind {α β : Type} (a : α) (t : Sem α) (f : α → Sem β) (Q : β → Shared → Prop) (E : Value → Shared → Prop) (M : Model) (A : Around) (s : Shared)
    (h : wpC M A (t >>= f) Q E s) (h0 : wpAny M A (f a) Q E s) : wpAny M A (guarded a t >>= f) Q E s := fun Γ p hΓ => by
  show Sem.wp M Γ ((guarded a t).bind f) _ _ p s
  unfold guarded
  rw [Sem.bind, Sem.wp_stack]
  by_cases hc : called ((Γ.code, p) :: Γ.below) = true
  · rw [if_pos hc]
    exact h Γ p hΓ hc
  · rw [if_neg hc]
    exact h0 Γ p hΓ

theorem guarded_any {α : Type} {a : α} {t : Sem α} {Q : α → Shared → Prop} {E : Value → Shared → Prop} {M : Model} {A : Around} {s : Shared}
    (h : wpC M A t Q E s) (h0 : Q a s) : wpAny M A (guarded a t) Q E s := fun Γ p hΓ => by
  unfold guarded
  rw [Sem.wp_stack]
  by_cases hc : called ((Γ.code, p) :: Γ.below) = true
  · rw [if_pos hc]
    exact h Γ p hΓ hc
  · rw [if_neg hc]
    exact h0

abbrev stubTree (name : Str) (vs : List Value) : Sem Fin := do match ← nsGet mainNs name with
      | some f => do ret (← PySem.call f vs)
      | none => unsupported "claim.caller:no-such-global"

/-- one step: the look for the caller -/
theorem sched_guarded {p : Program} {w : World} {n : Nat} {s s' : Shared} {o : Outcome} {t : Sem Fin} {a : Fin} (hz : s.asleep)
    (h : schedN (denote table) p w n (.single s ⟨guarded a t, .builtin "claim.caller" {}, default, []⟩) = .halted o s') :
    ∃ m, schedN (denote table) p w m (.single s ⟨t, .builtin "claim.caller" {}, default, []⟩) = .halted o s' := by
  cases n with
  | zero => cases h
  | succ n =>
    refine ⟨n, ?_⟩
    have hs : step (denote table) p w s ⟨guarded a t, .builtin "claim.caller" {}, default, []⟩ = .go s ⟨t, .builtin "claim.caller" {}, default, []⟩ := by
      obtain ⟨hh, g, d, tk, os⟩ := s
      rfl
    have e : sstep (denote table) p w (.single s ⟨guarded a t, .builtin "claim.caller" {}, default, []⟩) = .go (.single s ⟨t, .builtin "claim.caller" {}, default, []⟩) := by
      rcases sstep_single (denote table) p w s ⟨guarded a t, .builtin "claim.caller" {}, default, []⟩ rfl hz with e | e
      · rw [e, hs]; rfl
      · rw [hs] at e; cases e
    simp only [schedN, e] at h
    exact h

/-- the walk that is asked for: under the caller alone -/
abbrev WalkC (q : Program) (loose : List Str) (XP : (Str → Option Value) → Heap → Prop) (YP : World → Heap → Prop) (r : RowW) (d : DefRec) (kwd : List (Str × Expr)) : Prop :=
  ∀ (w : World) (s₀ s₁ : Shared) (mg mb : Str → Option Value), Ground q loose r.records XP w s₀ mg mb s₁.heap → YP w s₁.heap → ∀ (a : Addr) (o : Obj) (pm cd doc dV kV : Value), s₁.heap.get? a = some o →
    o.data = .func { docDef d.name d.params d.body d.scope pm cd doc with defaults := dV, kwdefaults := kV } → s₁.heap.CodeRec cd d.name → Dflts mg s₁.heap d.params kwd dV kV → mg d.name = some (.ref a) → s₁.gens = #[] →
    ∀ (args : List WData) (vals : List Value) (as : List Addr), r.claim.pre args = true → WData.layableAll args = true → ReadsAllW r.records (classAt s₀.heap) s₁.heap vals args as → WellAll w.params s₁.heap vals args → (∀ a ∈ as, (a == sysModules) = false) →
      GoodWG r.claim (classAt s₀.heap) (ExcName.means s₀.heap) args s₁ (.ok (.ret (.bool true))) s₁ ∧
      wpC (model r.prog w) callerA (PySem.call (.ref a) vals) (fun v s' => GoodWG r.claim (classAt s₀.heap) (ExcName.means s₀.heap) args s₁ (.ok (.ret v)) s')
        (fun e s' => GoodWG r.claim (classAt s₀.heap) (ExcName.means s₀.heap) args s₁ (.error e) s') s₁

theorem wpC_bind {α β : Type} {M : Model} {A : Around} {E : Value → Shared → Prop} {s : Shared} {m : Sem α} {f : α → Sem β} {Q : β → Shared → Prop} (h : wpC M A m (fun a s' => wpC M A (f a) Q E s') E s) :
    wpC M A (m >>= f) Q E s := fun Γ p hΓ hu => by
  rw [Sem.wp_bind']
  exact Sem.wp_mono M Γ m (fun a p' s' h' => h' Γ p' hΓ hu) (fun _ _ _ h' => h') p s (h Γ p hΓ hu)
theorem wpC_mono {α : Type} {M : Model} {A : Around} {s : Shared} {t : Sem α} {Q Q' : α → Shared → Prop} {E E' : Value → Shared → Prop} (h : wpC M A t Q E s)
    (hQ : ∀ a s, Q a s → Q' a s) (hE : ∀ e s, E e s → E' e s) : wpC M A t Q' E' s :=
  fun Γ p hΓ hu => Sem.wp_mono M Γ t (fun a _ s => hQ a s) (fun e _ s => hE e s) p s (h Γ p hΓ hu)

theorem PySem.W.holds_open {r : OpenRow} {q : Program} {loose : List Str} {Xt : Shared → Bool} {XP : (Str → Option Value) → Heap → Prop} {α : Type} {Yf : Shared → α} {Ya : World → α} {YP : World → Heap → Prop} {d : DefRec} {kwd : List (Str × Expr)} {N : Nat}
    (left : LeftO r.prog q loose Xt Yf Ya N) (hY : ∀ w s, Yf s = Ya w → YP w s.heap) (hYk : ∀ w h h', YP w h → (∀ b o, h.get? b = some o → h'.get? b = some o) → YP w h')
    (hX : ∀ s, Xt s = true → XP (s.heap.nsMap mainGlobals) s.heap) (hXk : ∀ mg h h', XP mg h → (∀ b o, h.get? b = some o → h'.get? b = some o) → XP mg h')
    (hdef : defOf q r.name = some (d, kwd)) (hp : r.prog.theDef r.name = some (d.params, d.body, d.scope)) (hk : kwWritten? d.params.kwonlyargs d.params.kw_defaults = some kwd) (hRf : ∀ s, Xt s = true → RecFacts r.records s.heap) (hwr : (!r.writes || r.records.isEmpty) = true)
    (k1 : r.wellSaid = true) (ok : (chainsOk q && opensWell r.prog && (frees r.toRowW && r.within.isEmpty)) = true) (hb : r.prog.bare) (hw : r.toRowW.promised)
    (call : WalkC q loose XP YP r.toRowW d kwd) : r.Holds := by
  refine ⟨k1, hw, ?_⟩
  have H : r.toRowW.claim.HoldsOpenBy (fun vs => ⟨guarded (.done (.ret (.bool true))) (stubTree r.name vs), .builtin "claim.caller" {}, default, []⟩) (if r.pinned then [r.name] else []) r.keeps r.writes := by
    refine open_anyG (r := r.toRowW) (run := fun f vs => guarded (.bool true) (PySem.call f vs)) (tree := fun vs => guarded (.done (.ret (.bool true))) (stubTree r.name vs)) left hY hYk hX hXk hRf hwr ok hb hw
      (fun vs w s mg f Q E hg hf h => ?_) (fun w s hg G n hn => ?_) fun w s₀ s₁ mg mb G Y args vs as hpre hlay L low => ?_
    · intro Γ p hΓ
      have z := h Γ p hΓ
      unfold guarded at z ⊢
      rw [Sem.wp_stack] at z ⊢
      by_cases hc : called ((Γ.code, p) :: Γ.below) = true
      · rw [if_pos hc] at z ⊢
        unfold stubTree
        rw [Sem.wp_bind']
        show Sem.wp _ Γ (nsGet mainGlobals r.name) _ _ p s
        rw [Sem.wp_nsGet _ Γ _ p s hg, hf]
        dsimp only
        rw [Sem.wp_bind']
        exact Sem.wp_mono _ _ _ (fun v p' s' hv => hv) (fun _ _ _ x => x) _ _ z
      · rw [if_neg hc] at z ⊢
        exact z
    · obtain rfl : n = r.name := by split at hn <;> simp_all
      exact pinned_of_view hg G hdef hp hk
    · obtain ⟨a, o, pm, cd, doc, dV, kV, h1, h2, h3, h4, h5⟩ := G.fn hdef
      obtain ⟨c1, c2⟩ := call w s₀ s₁ mg mb G Y a o pm cd doc dV kV h2 h3 h4 h5 (defOf_name hdef ▸ h1) L.gens args vs as hpre hlay L.reads L.well (L.low low)
      exact ⟨.ref a, h1, guarded_any c2 c1⟩
  obtain ⟨H1, H2, H3⟩ := H
  refine ⟨H1, H2, fun w => ⟨(H3 w).1, fun s hs => ?_⟩⟩
  obtain ⟨s₀, hf, hg0, s₁, hT, hn, hr1, hr2, hc⟩ := (H3 w).2 s hs
  refine ⟨s₀, hf, hg0, s₁, hT, hn, hr1, hr2, fun args hpre hlay ord hord => ?_⟩
  obtain ⟨vs, s₂, hl, n, o, s', hsch, rest⟩ := hc args hpre hlay ord hord
  have hal := layAllW_rest _ _ _ hl
  have hz : s₂.asleep := Shared.asleep_of_life (hal.2.2.2.trans (hT.2.1.trans (fence_lifeW hf))) (AfterImport.life hs)
  obtain ⟨m, hm⟩ := sched_guarded hz hsch
  exact ⟨vs, s₂, hl, m, o, s', hm, rest⟩

set_option maxHeartbeats 8000000 in
open_top hd for PySem.Challenge.rw_dg5011_01
end Mine
end

section
namespace Mine
theorem resetPre : True := by
  k_with_none
  w_top off
  trivial
section
variable {prog : Program} {w : World} {A A₀ : Around} {s : Shared} {K : Frag} {L : Addr} {h₀ base : Heap} {m mg mb : Str → Option Value} {p : Program} {loose : List Str} {mean : ExcName → Option Value}
/-- a def's frame entered, the objects `own` of the ledger hidden from the ground, all the others kept by it -/
theorem code_own {env : Env} {outer : List Env} {R : Result → Shared → Prop} {name qual : Str} {params : Arguments} {body : List Stmt} {scope : Scope} {dV kV doc pm cdv ct oc : Value} {an od : Option Addr} {osl : Array (Option Value)} {f : Addr} {args : Args} {binds : List (Str × Value)} {own : List (Addr × Obj)}
    (B : Below A₀ base outer h₀) (F : Fr h₀ L s.heap m) (X₀ : K.In h₀) (N : News h₀ L s.heap own) (T : Top p loose mean mg mb h₀) (hA : A.frames = some (env :: outer)) (hf : env.frame = some L) (hke : env.scope.kind = .function)
    (ho : K.lookup f = some ⟨oc, od, .func (fnOf name qual params body scope dV kV doc pm an cdv ct), osl⟩) (hcd : codeIn K cdv qual = true) (hroom : A.depth < recursionLimit)
    (hbind : BindsTo s (fnOf name qual params body scope dV kV doc pm an cdv ct) args binds) (hloc : ∀ y ∈ binds, scope.names.lookup y.1 = some .local)
    (h : ∀ g L' h₁, (∀ b o, s.heap.get? b = some o → b ∉ own.map (·.1) → g.get? b = some o) → s.heap.objs.size ≤ L' → Fr h₀ L g m → Fr g L' h₁ (fun y => binds.reverse.lookup y) → News g L' h₁ own → (∀ p ∈ own, p.1 < L') → Below A base (env :: outer) g → K.In g → Top p loose mean mg mb g →
      wpAny (model prog w) (A.deeper (envOf qual scope L' f cdv)) (execs body (envOf qual scope L' f cdv))
        (fun fl s' => LeaveK h₀ L m g R (match fl with | .ret v => v | _ => .none) s')
        (fun e s' => wpAny (model prog w) (A.deeper (envOf qual scope L' f cdv)) (leaving (envOf qual scope L' f cdv) e) (fun _ s'' => R (.error e) s'') (fun e' s'' => R (.error e') s'') s')
        { s with heap := h₁, toks := s.toks + binds.length })
    (hco : scope.isCoroutine = false) (hgen : scope.isGenerator = false) (hk : scope.kind = .function)
    (hcell : ∀ x ∈ scope.names, x.2 ≠ .cell) : codeAny (model prog w) A (.call (.ref f) args) R s := by
  obtain ⟨FG, BG, st, lv⟩ := groundX (R := R) B F N hA hf hke
  have XS : K.In s.heap := X₀.keeps F.keep
  refine codeAny_call_def (fd := fnOf name qual params body scope dV kV doc pm an cdv ct) (body := body) (binds := binds) hroom (XS _ _ ho) rfl (T.nolimit.keeps F.keep) (codeRec_of XS hcd) rfl hbind hcell hloc (fun h₁ hns hk₁ => ?_) hco hgen hk
  have N1 : News (hideAll s.heap (own.map (·.1))) s.heap.objs.size h₁ own := fun p hp => ⟨hk₁ _ _ (N p hp).1, Nat.ne_of_lt (Heap.lt_size (N p hp).1), hideAll_none _ (List.mem_map_of_mem hp)⟩
  have F1 : Fr (hideAll s.heap (own.map (·.1))) s.heap.objs.size h₁ (fun y => binds.reverse.lookup y) := ⟨hns, fun b o e => hk₁ b o (of_hideAll _ e), Nat.le_of_eq (hideAll_size _ _)⟩
  refine wpAny_mono (h _ s.heap.objs.size h₁ (fun b o e n => hideAll_get _ e n) (Nat.le_refl _) FG F1 N1 (fun p hp => Heap.lt_size (N p hp).1) BG (X₀.keeps st) (T.keeps st)) (fun fl s' hl => lv _ _ hl) fun _ _ y => y
end

/-- what a call of `f` does, wherever it stands: it reads, it may change nothing that stood, it hands back r and new objects tl -/
def Con (w : World) (d u : Nat) (f : Value) (args : List Value) (own : List (Addr × Obj)) (Out : Value → List (Addr × Obj) → Prop) : Prop :=
  ∀ (loose : List Str) (mean : ExcName → Option Value) (mg mb : Str → Option Value) (dp un : Nat) (gd : Option (List Code)) (cn : Str) (cs : Scope) (a : Addr) (ccd : Value) (cl : List (Str × Addr)) (outer : List Env) (A₀ : Around) (base h₀ : Heap) (L : Addr) (m : Str → Option Value) (news : List (Addr × Obj)) (s : Shared)
    (Q E : Value → Shared → Prop),
    Below A₀ base outer h₀ → Fr h₀ L s.heap m → (hd.heap_39 w.params).In h₀ → News h₀ L s.heap news → Top hd.view_39 loose mean mg mb h₀ → cs.kind = .function → (∀ p ∈ own, p ∈ news) → dp + d < recursionLimit → un + u < cLine →
    (∀ r tl h' tk', Fr h₀ L h' m → News h₀ L h' (tl ++ news) → (∀ q ∈ tl, s.heap.get? q.1 = none) → Out r tl → Q r { s with heap := h', toks := tk' }) →
    wpAny (model PySem.Challenge.pw_dg5011_01 w) (ktrTop dp un gd cn cs L a ccd cl outer) (call f args) Q E s

theorem con_back {h₀ g h' : Heap} {L L' : Addr} {m' : Str → Option Value} {news own tl : List (Addr × Obj)} {s : Shared} (N : News h₀ L s.heap news) (hg : ∀ b o, s.heap.get? b = some o → b ∉ own.map (·.1) → g.get? b = some o)
    (F' : Fr g L' h' m') (kN : News h₀ L h' (tl ++ own)) (ho : ∀ p ∈ own, p ∈ news) : News h₀ L h' (tl ++ news) := by
  intro p hp
  rcases List.mem_append.mp hp with hp | hp
  · exact kN p (List.mem_append_left _ hp)
  · by_cases q : p.1 ∈ own.map (·.1)
    · obtain ⟨p', hp', e⟩ := List.mem_map.mp q
      have h1 := (N _ hp).1
      have h2 := (N _ (ho _ hp')).1
      rw [e, h1] at h2
      have : p' = p := Prod.ext e (Option.some.inj h2).symm
      rw [← this]
      exact kN p' (List.mem_append_right _ hp')
    · exact ⟨F'.keep _ _ (hg _ _ (N p hp).1 q), (N p hp).2⟩
theorem con_fresh {g h h' : Heap} {L' : Addr} {own tl : List (Addr × Obj)} (hg : ∀ b o, h.get? b = some o → b ∉ own.map (·.1) → g.get? b = some o) (N' : News g L' h' (tl ++ own)) (ha : ∀ q ∈ tl, ∀ p ∈ own, p.1 ≠ q.1) : ∀ q ∈ tl, h.get? q.1 = none := by
  intro q hq
  cases e : h.get? q.1 with
  | none => rfl
  | some o =>
    have h1 := (N' q (List.mem_append_left _ hq)).2.2
    rw [hg _ _ e fun hm => ?_] at h1
    · cases h1
    · obtain ⟨p, hp, e'⟩ := List.mem_map.mp hm
      exact ha q hq p hp e'

end Mine
end

section
open PySem PySem.W PyProof.Rows PySem.Spec PySem.Calls Builtin Builtin.ObjectAttr
namespace Mine
theorem resetRules : True := by
  k_with_none
  w_top off
  trivial
section
variable {prog : Program} {w : World} {A : Around} {E : Value → Shared → Prop} {s : Shared} {K : Frag} {x C f L : Addr} {ox : Obj} {od : Obj} {name : Str} {expr : Bool} {h₀ : Heap} {m : Str → Option Value} {news : List (Addr × Obj)} {es : List DictEntry} {n : Nat} {Q : Value → Shared → Prop} {hook : Value}

/-- a value that the object itself holds, its class may have a __getattr__ -/
theorem hk_own {v : Value} {attr : Option Value} (F : Fr h₀ L s.heap m) (X₀ : K.In h₀) (I : InstAt s.heap x ox C (some (dictOf es n))) (hga : findIn K (.ref C) "__getattribute__" = some (some (.builtin "object.__getattribute__"))) (hh : hasDictIn K C = true)
    (ha : findIn K (.ref C) name = some attr) (hn : noGet K attr = true) (hl : getL name es = some (some v)) (hv : handedIn v = true) (h : Q v { s with toks := s.toks + 1 }) :
    wpAny (model prog w) A (getAttr (.ref x) name expr) Q E s :=
  get_value (X₀.keeps F.keep) I hga (findObj_own hh ha hn (by show lookIn name (dictOf es n) = _; rw [lookIn_dict, hl])) hv h

theorem hk_bind {o : Option Obj} {g a : Value} (X : K.In s.heap) (I : InstAt s.heap x ox C o) (hga : findIn K (.ref C) "__getattribute__" = some (some (.builtin "object.__getattribute__")))
    (hf : findObj K C o name = some (.bind g a)) (hk : findIn K (.ref C) "__getattr__" = some (some hook))
    (h : wpAny (model prog w) A.in1 (call g [a, .ref x, .ref C]) (fun v s' => wpAny (model prog w) A (handedOut v) Q E s') (fun _ _ => False) { s with toks := s.toks + 1 }) :
    wpAny (model prog w) A (getAttr (.ref x) name expr) Q E s := by
  refine get_open X I hga ?_
  obtain ⟨hh', gg, d, t, os⟩ := s
  have L0 := I.type (M := model prog w)
  have L1 := looks_find (M := model prog w) X I hf
  have L2 := looks_findIn (M := model prog w) X hk
  refine wpAny_bind (wpAny_pure (wpAny_bind (L0.at (wpAny_bind (L1.at (wpAny_bind (L2.at ?_)))))))
  show wpAny _ _ (bindOrHook g a (.ref x) (.ref C) _ hook) _ _ _
  unfold bindOrHook
  refine wpAny_bind (wpAny_attempt (wpAny_holding ?_))
  show wpAny _ _ (holding [a] (call g [a, .ref x, .ref C]) >>= ret) _ _ _
  exact wpAny_bind (wpAny_holding (wpAny_mono h (fun v s' z => wpAny_pure (wpAny_pure z)) fun _ _ z => z.elim))

theorem hk_bound (F : Fr h₀ L s.heap m) (X₀ : K.In h₀) (N : News h₀ L s.heap news) (I : InstAt s.heap x ox C (some (dictOf es n))) (hga : findIn K (.ref C) "__getattribute__" = some (some (.builtin "object.__getattribute__"))) (hk : findIn K (.ref C) "__getattr__" = some (some hook)) (hh : hasDictIn K C = true) (ha : findIn K (.ref C) name = some (some (.ref f))) (hf : isFn K (.ref f) = true)
    (hgf : specialIn K (.ref f) "__get__" = some (some (.builtin "function.__get__"))) (ht : takesIn K (.ref f) = some false) (hc : copiedNames.contains name = false) (hl : getL name es = some none)
    (h : ∀ q h', Fr h₀ L h' m → News h₀ L h' ((q, methodObj (.ref f) (.ref x)) :: news) → (∀ p ∈ news, p.1 < q) → Q (.ref q) { s with heap := h', toks := s.toks + 1 }) : wpAny (model prog w) A (getAttr (.ref x) name expr) Q E s :=
  hk_bind (X₀.keeps F.keep) I hga (findObj_fn hh ha hgf ht hc (by show lookIn name (dictOf es n) = _; rw [lookIn_dict, hl])) hk
    (wpAny_call (fn_get (s := { s with toks := s.toks + 1 }) (X₀.keeps F.keep) (beq_iff_eq.mp hf) (handed_on rfl (h s.heap.objs.size _ (F.push _) (N.push F _) fun p hp => Heap.lt_size (N p hp).1))))

theorem hk_prop {p fget : Addr} {rest : List Value} (F : Fr h₀ L s.heap m) (X₀ : K.In h₀) (I : InstAt s.heap x ox C (some od)) (hga : findIn K (.ref C) "__getattribute__" = some (some (.builtin "object.__getattribute__"))) (hk : findIn K (.ref C) "__getattr__" = some (some hook)) (hh : hasDictIn K C = true)
    (ha : findIn K (.ref C) name = some (some (.ref p))) (hn : specialIn K (.ref p) "__get__" = some (some (.builtin "property.__get__"))) (ht : takesIn K (.ref p) = some true) (hp : recIn K p "property" = some (.ref fget :: rest))
    (h : codeAny (model prog w) A.in1 (.call (.ref fget) ⟨[.ref x], []⟩) (fun r s' => match r with | .ok (.ret v) => wpAny (model prog w) A (handedOut v) Q E s' | .ok _ => False | .error _ => False) { s with toks := s.toks + 1 }) :
    wpAny (model prog w) A (getAttr (.ref x) name expr) Q E s :=
  hk_bind (X₀.keeps F.keep) I hga (findObj_data (by obtain ⟨cd, hc, _⟩ := any_some hh; rw [hc]; rfl) ha hn ht) hk (wpAny_call (prop_get (s := { s with toks := s.toks + 1 }) (X₀.keeps F.keep) hp h))

theorem hk_method {o : Option Obj} {pl : Sem Bool} {Q : Value × List Value → Shared → Prop} (F : Fr h₀ L s.heap m) (X₀ : K.In h₀) (I : InstAt s.heap x ox C o) (hga : findIn K (.ref C) "__getattribute__" = some (some (.builtin "object.__getattribute__")))
    (hk : findIn K (.ref C) "__getattr__" = some (some hook)) (h : wpAny (model prog w) A (getAttr (.ref x) name) (fun v => Q (v, [])) E s) : wpAny (model prog w) A (getMethod (.ref x) name pl) Q E s := by
  have X : K.In s.heap := X₀.keeps F.keep
  have hcan := PySem.F.canon_object_ga
  unfold getMethod specialOf
  refine wpAny_bind (wpAny_bind (I.type.here ((looks_findIn X hga).here ?_)))
  dsimp only
  rw [hcan, if_neg (by decide)]
  refine wpAny_bind (wpAny_bind (I.type.here ((looks_findIn X hk).here ?_)))
  exact wpAny_bind (wpAny_mono h (fun _ _ z => wpAny_pure z) fun _ _ z => z)
end
end Mine
end

section
namespace Mine
theorem resetCalled : True := by
  k_with_none
  w_top off
  trivial
section
variable {α β : Type} {M : Model} {A : Around} {E : Value → Shared → Prop} {s : Shared} {env : Env}
theorem wpC_pure {a : α} {Q : α → Shared → Prop} (h : Q a s) : wpC M A (pure a) Q E s := wpC_any (wpAny_pure h)
theorem wpC_standAt {pos : Pos} {Q : Unit → Shared → Prop} (h : Q () s) : wpC M A (standAt pos) Q E s := wpC_any (wpAny_standAt h)
theorem wpC_holding {vs : List Value} {m : Sem α} {Q : α → Shared → Prop} (h : wpC M A m Q E s) : wpC M A (holding vs m) Q E s :=
  fun Γ p hΓ hu => by rw [Sem.wp_holding]; exact h Γ p hΓ hu
theorem wpC_keep {vs : List Value} {m : Sem α} {Q : α → Shared → Prop} (h : wpC M A m Q E s) : wpC M A (m.keep vs) Q E s :=
  fun Γ p hΓ hu => by rw [Sem.wp_keep]; exact h Γ p hΓ hu
theorem wpC_attempt {m : Sem α} {Q : Except Value α → Shared → Prop} (h : wpC M A m (fun a => Q (.ok a)) (fun e => Q (.error e)) s) : wpC M A m.attempt Q E s :=
  fun Γ p hΓ hu => by rw [Sem.wp_attempt]; exact h Γ p hΓ hu
theorem wpC_onRaise {m : Sem α} {k : Value → Sem Unit} {Q : α → Shared → Prop}
    (h : wpC M A m Q (fun e s' => wpC M A (k e) (fun _ s'' => E e s'') E s') s) : wpC M A (m.onRaise k) Q E s := fun Γ p hΓ hu => by
  rw [Sem.wp_onRaise]
  exact Sem.wp_mono M Γ m (fun _ _ _ h' => h') (fun e p' s' h' => h' Γ p' hΓ hu) p s (h Γ p hΓ hu)
theorem wpC_of_eq {t : Sem α} {a : α} {Q : α → Shared → Prop} (e : t = pure a) (h : Q a s) : wpC M A t Q E s := e ▸ wpC_pure h
theorem wpC_operate {vs : List Value} {m : Sem Value} {Q : Value → Shared → Prop} (h : wpC M A m Q E s) : wpC M A (operate vs m) Q E s :=
  fun Γ p hΓ hu => by rw [Sem.wp_operate]; exact h Γ p hΓ hu
theorem codeC_mono {c : Code} {R R' : Result → Shared → Prop} (h : codeC M A c R s) (hR : ∀ r s, R r s → R' r s) : codeC M A c R' s :=
  fun Γ p hc hΓ hu => wpCode_mono hR (h Γ p hc hΓ hu)
theorem wpC_run {c : Code} {h : Option Value} {Q : Flow → Shared → Prop}
    (hc : codeC M (A.mark h) c (fun r s' => match r with | .ok f => Q f s' | .error e => E e s') s) (hnb : h ≠ some byPass := by intro x; cases x) : wpC M A (run c h) Q E s :=
  fun Γ p hΓ hu => by rw [Sem.wp_run]; exact hc _ p rfl (hΓ.enter c h p hnb) hu
theorem wpC_runValue {c : Code} {Q : Value → Shared → Prop}
    (hc : codeC M A c (fun r s' => match r with | .ok (.ret v) => Q v s' | .ok _ => False | .error e => E e s') s) : wpC M A (runValue c) Q E s :=
  fun Γ p hΓ hu => by rw [Sem.wp_runValue]; exact hc _ p rfl (hΓ.enter c none p (by intro x; cases x)) hu
theorem wpC_call {f : Value} {pos : List Value} {kw : List (Str × Value)} {Q : Value → Shared → Prop}
    (hc : codeC M A (.call f ⟨pos, kw⟩) (fun r s' => match r with | .ok (.ret v) => Q v s' | .ok _ => False | .error e => E e s') s) : wpC M A (call f pos kw) Q E s := wpC_runValue hc
theorem codeC_of_tree {c : Code} {R : Result → Shared → Prop}
    (h : wpC M (A.under c) (M.den c) (fun fin s' => match fin with | .done f => R (.ok f) s' | .again c' => c'.quiet = true ∧ codeC M A c' R s') (fun e s' => R (.error e) s') s) : codeC M A c R s := fun Γ p hc hΓ hu => by
  rw [wpCode_iff_wp, hc]
  refine Sem.wp_mono M Γ _ (fun fin p' s' h' => ?_) (fun _ _ _ h' => h') p s (h Γ p (hc ▸ hΓ.in) (by unfold Up; rw [hu, Bool.or_true]))
  cases fin with
  | done f => exact h'
  | again c' => exact ⟨h'.1, h'.2 (Γ.goto c') p' rfl (hΓ.goto c') hu⟩

theorem wpC_execs_cons {st : Stmt} {rest : List Stmt} {Q : Flow → Shared → Prop}
    (h : wpC M A (exec st env) (fun f s' => match f with | .next => wpC M A (execs rest env) Q E s' | f => Q f s') E s) : wpC M A (execs (st :: rest) env) Q E s := fun Γ p hΓ hu => by
  rw [execs_cons, Sem.wp_bind']
  refine Sem.wp_mono M Γ _ (fun f p' s' h' => ?_) (fun _ _ _ h' => h') _ _ (h Γ p hΓ hu)
  cases f <;> first | exact h' Γ p' hΓ hu | exact h'
theorem wpC_execs_nil {Q : Flow → Shared → Prop} (h : Q .next s) : wpC M A (execs [] env) Q E s := wpC_any (wpAny_execs_nil h)
theorem wpC_Return {e : Expr} {pos : Pos} {Q : Flow → Shared → Prop} (h : wpC M A (eval e env) (fun v => Q (.ret v)) E s) : wpC M A (exec (.Return (some e) pos) env) Q E s := by
  rw [exec_Return_some]
  exact wpC_bind (wpC_standAt (wpC_bind (wpC_mono h (fun _ _ x => wpC_pure x) fun _ _ x => x)))
theorem wpC_Expr {prog : Program} {w : World} {e : Expr} {pos : Pos} {Q : Flow → Shared → Prop} (h : wpC (model prog w) A (eval e env) (fun _ => Q .next) E s)
    (hi : interactive env = false := by rfl) (hs : swapsWith e none pos.line env = pure false := by rfl) : wpC (model prog w) A (exec (.Expr e pos) env) Q E s := by
  rw [exec_Expr env e pos hi hs]
  exact wpC_bind (wpC_standAt (wpC_bind (wpC_mono h (fun v s' h' => wpC_any (wpAny_dropValue h')) fun _ _ x => x)))
theorem wpC_Assign_Name {x : Str} {pos' pos : Pos} {value : Expr} {Q : Flow → Shared → Prop}
    (h : wpC M A (eval value env) (fun v s₁ => wpAny M A (storeName env x v) (fun _ => Q .next) E s₁) E s)
    (hs : swapsWith value (some (.Name x pos')) pos.line env = pure false := by rfl) : wpC M A (exec (.Assign [.Name x pos'] value pos) env) Q E s := by
  rw [exec_Assign_Name env x pos' value pos hs]
  exact wpC_bind (wpC_standAt (wpC_bind (wpC_mono h (fun v s₁ h₁ => wpC_bind (wpC_standAt (wpC_bind (wpC_any (wpAny_bindName (wpAny_mono h₁ (fun _ _ z => wpC_pure z) fun _ _ z => z))))))
    fun _ _ z => z)))
theorem wpC_Try {prog : Program} {w : World} {body : List Stmt} {h₀ : ExceptHandler} {hs : List ExceptHandler} {pos : Pos} {Q : Flow → Shared → Prop}
    (h : wpC (model prog w) A (execs body env) Q
      (fun e s₁ => wpAny (model prog w) A (noteFrame e env) (fun _ s₂ => wpAny (model prog w) A (setFlight e none) (fun _ s₃ => wpAny (model prog w) A (handleBy e env (h₀ :: hs)) Q E s₃) E s₂) E s₁) s) :
    wpC (model prog w) A (exec (.Try body (h₀ :: hs) [] [] pos) env) Q E s := by
  rw [arm_exec_Try]
  refine wpC_bind (wpC_standAt ?_)
  unfold tryStmt
  simp only [List.isEmpty_nil, if_true, List.isEmpty_cons, Bool.false_and, Bool.false_eq_true, if_false]
  refine wpC_bind (wpC_attempt (wpC_mono h (fun f s₁ h₁ => ?_) fun e s₁ h₁ => ?_))
  · cases f <;> first | exact wpC_execs_nil h₁ | exact wpC_pure h₁
  · exact wpC_any (wpAny_bind (wpAny_mono h₁ (fun _ _ h₂ => wpAny_bind h₂) fun _ _ x => x))
theorem wpC_If {test : Expr} {body orelse : List Stmt} {pos : Pos} {Q : Flow → Shared → Prop}
    (h : wpAny M A (isTrue test env (eval test env)) (fun b s₁ => if b = true then wpC M A (execs body env) Q E s₁ else wpC M A (execs orelse env) Q E s₁) E s) : wpC M A (exec (.If test body orelse pos) env) Q E s := by
  show wpC M A (do standAt pos; if ← isTrue test env (eval test env) then execs body env else execs orelse env) Q E s
  refine wpC_bind (wpC_standAt (wpC_bind (wpC_any (wpAny_mono h (fun b s₁ z => ?_) fun _ _ z => z))))
  cases b
  · exact z
  · exact z

/-- a call's args, all plain; the call itself under the caller -/
theorem wpC_callWith {pos : Pos} {f : Value} {first : List Value} {args : List (Bool × Sem Value)} {Q : Value → Shared → Prop} {P : Heap → Prop} (hpl : args.any (·.1) = false)
    (hk : ∀ h, P h → ∃ k, (k = Keeper.frame ∨ k = Keeper.machine ∨ k = Keeper.boundFrame) ∧ Looks M h (keeperOf f) k)
    (h : wpC M A (evalArgs f true args []) (fun a s₁ => P s₁.heap ∧ wpC M A (call f (first ++ a.pos) a.kw) Q E s₁) E s) : wpC M A (callWith pos f first args []) Q E s := by
  unfold callWith
  refine wpC_bind (wpC_holding (wpC_mono h (fun a s₁ h₁ => wpC_bind (wpC_standAt ?_)) fun _ _ x => x))
  obtain ⟨k, hk', L⟩ := hk _ h₁.1
  simp only [hpl, List.any_nil, Bool.or_false]
  refine wpC_bind (wpC_any (L.here ?_))
  have tail : ∀ {t : Sem Value}, wpC M A t Q E s₁ → wpC M A (t >>= fun r => holding [r] point >>= fun _ => pure r) Q E s₁ :=
    fun ht => wpC_bind (wpC_mono ht (fun r s₂ hr => wpC_bind (wpC_any (wpAny_holding (wpAny_point (wpC_pure hr))))) fun _ _ x => x)
  have marked (mk : Value) : wpC M A (callMarked mk f (first ++ a.pos) a.kw) Q E s₁ := by unfold callMarked; exact wpC_keep h₁.2
  rcases hk' with rfl | rfl | rfl <;> dsimp only <;> first | exact tail h₁.2 | (split <;> first | exact tail h₁.2 | exact tail (marked _))
theorem wpC_evalArgs {f : Value} {x : Sem Value} {rest : List (Bool × Sem Value)} {Q : Args → Shared → Prop}
    (h : wpC M A (spliced ((false, x) :: rest)) (fun vs s' => Q ⟨vs, []⟩ s') E s) : wpC M A (evalArgs f true ((false, x) :: rest) []) Q E s := by
  unfold evalArgs
  show wpC M A (spliced ((false, x) :: rest) >>= _) Q E s
  refine wpC_bind (wpC_mono h (fun vs s' h' => ?_) fun _ _ x => x)
  refine wpC_holding ?_
  exact wpC_bind (wpC_pure (wpC_bind (wpC_pure (wpC_pure h'))))
theorem wpC_spliced_cons {x : Sem Value} {rest : List (Bool × Sem Value)} {Q : List Value → Shared → Prop}
    (h : wpC M A x (fun v s₁ => wpC M A (spliced rest) (fun vs s₂ => Q (v :: vs) s₂) E s₁) E s) : wpC M A (spliced ((false, x) :: rest)) Q E s := by
  rw [spliced]
  refine wpC_bind (wpC_mono h (fun v s₁ h₁ => ?_) fun _ _ x => x)
  simp only [Bool.false_eq_true, if_false]
  refine wpC_bind (wpC_pure (wpC_bind (wpC_holding (wpC_mono h₁ (fun vs s₂ h₂ => wpC_pure h₂) fun _ _ x => x))))
theorem wpC_spliced_nil {Q : List Value → Shared → Prop} (h : Q [] s) : wpC M A (spliced []) Q E s := wpC_any (spliced_nil h)
/-- f(*x), x one list -/
theorem wpC_callWith_star {pos : Pos} {f : Value} {first : List Value} {x : Sem Value} {pos' : Pos} {Q : Value → Shared → Prop} {P : Heap → Prop}
    (hk : ∀ h, P h → ∃ k, (k = Keeper.frame ∨ k = Keeper.machine ∨ k = Keeper.boundFrame) ∧ Looks M h (keeperOf f) k)
    (h : wpAny M A x (fun v s₁ => StarOf M A E v (fun vs s₂ => P s₂.heap ∧ wpC M A (call f (first ++ vs)) Q E s₂) s₁) E s) :
    wpC M A (callWith pos f first [(true, (do let v ← x; standAt pos'; pure v))] []) Q E s := by
  unfold callWith
  refine wpC_bind (wpC_holding (wpC_any (ks_lone (wpAny_mono h (fun v s₁ h₁ => ?_) fun _ _ z => z))))
  unfold StarOf at h₁ ⊢
  refine wpAny_mono h₁ (fun b s₂ h₂ => ⟨h₂.1, wpAny_mono h₂.2 (fun vs s₃ h₃ => ?_) fun _ _ z => z⟩) fun _ _ z => z
  obtain ⟨hP, h₃⟩ := h₃
  refine wpC_bind (wpC_standAt ?_)
  obtain ⟨k, hk', L⟩ := hk _ hP
  simp only [List.any_cons, Bool.true_or]
  refine wpC_bind (wpC_any (L.here ?_))
  have tail : ∀ {t : Sem Value}, wpC M A t Q E s₃ → wpC M A (t >>= fun r => holding [r] point >>= fun _ => pure r) Q E s₃ :=
    fun ht => wpC_bind (wpC_mono ht (fun r s₂ hr => wpC_bind (wpC_any (wpAny_holding (wpAny_point (wpC_pure hr))))) fun _ _ x => x)
  have marked (mk : Value) : wpC M A (callMarked mk f (first ++ vs) []) Q E s₃ := by unfold callMarked; exact wpC_keep h₃
  rcases hk' with rfl | rfl | rfl <;> dsimp only <;> first | exact tail (marked _) | exact tail (wpC_operate h₃)
end
end Mine
end

section
namespace Mine
theorem resetCalled2 : True := by
  k_with_none
  w_top off
  trivial
section
variable {M : Model} {A : Around} {E : Value → Shared → Prop} {s : Shared} {env : Env}
theorem wpC_evalCall {x : Str} {p pos : Pos} {args : List Expr} {Q : Value → Shared → Prop} (h : wpAny M A (eval (.Name x p) env) (fun f s₁ => wpC M A (callWith pos f [] (backTo pos (starEach args env)) []) Q E s₁) E s) :
    wpC M A (eval (.Call (.Name x p) args [] pos) env) Q E s := by
  show wpC M A (eval (.Name x p) env >>= fun f => callWith pos f [] (backTo pos (starEach args env)) []) Q E s
  exact wpC_bind (wpC_any h)
theorem wpC_evalMethod {o : Expr} {name : Str} {apos pos : Pos} {args : List Expr} {pl : Sem Bool} {Q : Value → Shared → Prop}
    (h : wpAny M A (eval o env) (fun ov s₁ => wpAny M A (getMethod ov name pl) (fun fx s₂ => wpC M A (callWith pos fx.1 fx.2 (backTo pos (starEach args env)) []) Q E s₂) E s₁) E s)
    (he : eval (.Call (.Attribute o name apos) args [] pos) env = (do
      let ov ← eval o env
      standAt apos.atName
      let (f, first) ← holding [ov] (getMethod ov name pl)
      callWith pos f first (backTo pos (starEach args env)) []) := by rfl) : wpC M A (eval (.Call (.Attribute o name apos) args [] pos) env) Q E s := by
  rw [he]
  exact wpC_bind (wpC_any (wpAny_mono h (fun ov s₁ h₁ => wpC_bind (wpC_any (wpAny_standAt (wpC_bind (wpC_any (wpAny_holding (wpAny_mono h₁ (fun fx s₂ h₂ => h₂) fun _ _ x => x))))))) fun _ _ x => x))
end

section
variable {prog : Program} {w : World} {A A₀ : Around} {E : Value → Shared → Prop} {s : Shared} {R : Result → Shared → Prop}
theorem codeC_func {body : List Stmt} {env : Env}
    (h : wpC (model prog w) (A.deeper env) (execs body env) (fun f s' => R (.ok (.ret (match f with | .ret v => v | _ => .none))) s')
      (fun e s' => wpAny (model prog w) (A.deeper env) (leaving env e) (fun _ s'' => R (.error e) s'') (fun e' s'' => R (.error e') s'') s') s) :
    codeC (model prog w) A (.func body env) R s := by
  refine codeC_of_tree ?_
  show wpC _ (A.deeper env) (do point; match ← (execs body env).onRaise (leaving env) with | .ret v => ret v | _ => ret .none) _ _ s
  refine wpC_bind (wpC_any (wpAny_point (wpC_bind (wpC_onRaise (wpC_mono h (fun f s' h' => ?_) fun _ _ h' => wpC_any h')))))
  cases f <;> exact wpC_pure h'
theorem codeC_call_function {a : Addr} {args : Args} {o : Obj} {fd : FuncData} {body : List Stmt} (hroom : A.depth < recursionLimit) (ho : s.heap.get? a = some o)
    (hd' : o.data = .func fd) (hco : fd.scope.isCoroutine = false) (hgen : fd.scope.isGenerator = false) (hbody : fd.body = .stmts body) (hcd : s.heap.CodeRec fd.code fd.qualname)
    (h : wpC (model prog w) A.in1 (bindArgs fd args) (fun binds s₁ =>
      wpAny (model prog w) A.in1 (newFunctionEnv fd.scope fd.globals fd.closure binds (fd.qualname ++ ".<locals>.") (some a) fd.code none fd.builtins)
        (fun env s₂ => s₂.heap.NoLimit ∧ codeC (model prog w) A (.func body env) R s₂) (fun e s' => R (.error e) s') s₁) (fun e s' => R (.error e) s') s) :
    codeC (model prog w) A (.call (.ref a) args) R s := by
  refine codeC_of_tree ?_
  show wpC _ A.in1 (callAny (.ref a) args) _ _ s
  simp only [callAny]
  refine wpC_bind (wpC_any (wpAny_load ho ?_))
  obtain ⟨c, oc, vs, tq, hc, hoc, hdc, hq⟩ := hcd
  simp only [hd', callFunction, hco, hgen, hbody, hc]
  rw [hc] at h
  refine wpC_bind (m := field (.ref c) 1) (wpC_any (wpAny_field hoc hdc hq (wpC_bind (wpC_pure ?_))))
  exact wpC_bind (wpC_mono h (fun binds s₁ h₁ => wpC_bind (wpC_any (wpAny_mono h₁ (fun env s₂ h₂ => wpC_bind (wpC_any (wpAny_enterFrame h₂.1 hroom
    (wpC_pure (And.intro rfl h₂.2))))) fun _ _ h' => h'))) fun _ _ h' => h')
theorem codeC_method {q : Addr} {f self : Value} {pos : List Value} {kw : List (Str × Value)} (ho : s.heap.get? q = some (methodObj f self))
    (h : codeC (model prog w) A (.call f ⟨self :: pos, kw⟩) R s) : codeC (model prog w) A (.call (.ref q) ⟨pos, kw⟩) R s := by
  obtain ⟨hh, g, dr, t, os⟩ := s
  refine codeC_of_tree ?_
  show wpC _ _ (callAny (.ref q) _) _ _ _
  dsimp only at ho
  refine wpC_any (nd_load ho ?_)
  cases f <;> exact wpAny_pure ⟨rfl, h⟩

theorem codeC_forTurn {target : Expr} {it : Value} {body : List Stmt} {env : Env} (ht : ∀ v, letOwnedTupleGo target it v = pure ())
    (h : wpAny (model prog w) A (pyNext it) (fun r s₁ => match r with
      | none => R (.ok .next) s₁
      | some v => wpAny (model prog w) A (assign target env v) (fun _ s₂ => wpC (model prog w) A (execs body env) (fun f s₃ => match f with
          | .next | .cont => codeC (model prog w) A (.forLoop target it body [] env) R s₃
          | .brk => R (.ok .next) s₃
          | .ret v => R (.ok (.ret v)) s₃) (fun _ _ => False) s₂) (fun _ _ => False) s₁) (fun _ _ => False) s) :
    codeC (model prog w) A (.forLoop target it body [] env) R s := by
  refine codeC_of_tree ?_
  show wpC _ A ((forTurn target it body [] env).onRaise (fun x => do noteFrame x env; theTreesLotGoes x)) _ _ s
  refine wpC_onRaise (wpC_mono (E := fun _ _ => False) (Q := fun fin s' => match fin with | .done f => R (.ok f) s' | .again c' => c'.quiet = true ∧ codeC (model prog w) A c' R s') ?_ (fun _ _ x => x) fun _ _ x => x.elim)
  simp only [forTurn]
  refine wpC_bind (wpC_standAt (wpC_bind (wpC_onRaise (wpC_any (wpAny_mono h (fun r s₁ h₁ => ?_) fun _ _ x => x.elim)))))
  cases r with
  | none => exact wpC_pure ⟨rfl, codeC_any (codeAny_block (wpAny_execs_nil h₁))⟩
  | some v =>
    refine wpC_bind (wpC_of_eq (ht v) ?_)
    refine wpC_bind (wpC_any (wpAny_mono h₁ (fun _ s₂ h₂ => wpC_bind (wpC_mono h₂ (fun f s₃ h₃ => ?_) fun _ _ x => x)) fun _ _ x => x))
    cases f with
    | next => exact wpC_pure ⟨rfl, h₃⟩
    | cont => exact wpC_pure ⟨rfl, h₃⟩
    | brk => exact wpC_pure h₃
    | ret v => exact wpC_pure h₃
theorem wpC_For {target iter : Expr} {body : List Stmt} {pos : Pos} {env : Env} {Q : Flow → Shared → Prop}
    (h : wpAny (model prog w) A (eval iter env) (fun x s₁ => wpAny (model prog w) A (pyIter x) (fun it s₂ =>
      codeC (model prog w) A (.forLoop target it body [] env) (fun r s' => match r with | .ok f => Q f s' | .error _ => False) s₂) E s₁) E s)
    (hs : ∀ x, foldedSetIterable iter env x = pure x := by intro _; rfl) : wpC (model prog w) A (exec (.For target iter body [] pos) env) Q E s := by
  rw [exec_For]
  refine wpC_bind (wpC_standAt (wpC_bind (wpC_any (wpAny_mono h (fun x s₁ h₁ => wpC_bind (wpC_of_eq (hs x) (wpC_bind (wpC_standAt (wpC_bind (wpC_holding (wpC_any (wpAny_mono h₁ (fun it s₂ h₂ => ?_) fun _ _ z => z))))))))
    fun _ _ z => z))))
  unfold runOwn
  refine wpC_onRaise (wpC_run (codeC_mono h₂ fun r s' z => ?_))
  cases r with
  | ok f => exact z
  | error e => exact z.elim

theorem not_python {own : List String} {l : List (Code × Pos)} (h : called l = true) : pythonCodeMadeTheCall own (l.map (·.1)) = false := by
  have e : ((l.map (·.1)).any fun c => match c with | .builtin "claim.caller" _ => true | _ => false) = true := by
    rw [List.any_map]
    obtain ⟨x, hx, hc⟩ := List.any_eq_true.mp h
    refine List.any_eq_true.mpr ⟨x, hx, ?_⟩
    unfold Code.isCaller at hc
    exact hc
  have z : ∀ a b c : Bool, a = true → (!a && b && c) = false := by decide
  unfold pythonCodeMadeTheCall
  exact z _ _ _ e
theorem wpC_mark {own : List String} {e : Value} {Q : Unit → Shared → Prop} (h : Q () s) : wpC (model prog w) A (markTheRefusal own e) Q E s := by
  intro Γ p hΓ hu
  unfold markTheRefusal
  rw [Sem.wp_bind']
  show Sem.wp _ Γ (if pythonCodeMadeTheCall own (((Γ.code, p) :: Γ.below).map (·.1)) = true then _ else _) _ _ p s
  rw [not_python (by exact hu), if_neg Bool.false_ne_true]
  exact h
/-- the binder refuses; under the caller nothing is written of it -/
theorem wpC_refuse {α : Type} {msg : String} {Q : α → Shared → Prop} (hh : A.handled = none)
    (h : ∀ h' tk e, Heap.NewExc s.heap h' e "TypeError" → E (.ref e) { s with heap := h', toks := tk }) (hm : (msg : Str).length ≤ sizeLine) :
    wpC (model prog w) A (theBinderRefuses msg : Sem α) Q E s := by
  unfold theBinderRefuses
  refine wpC_bind (wpC_any (wpAny_mkStr (wpC_bind (wpC_any ?_)) hm))
  unfold newExc newTuple
  refine wpAny_bind (wpAny_newObj_type ?_)
  refine wpAny_bind (m := firstArgMember _ _) (wpAny_of_eq (a := Value.none) (by simp only [firstArgMember, typeError_no_first]; rfl) ?_)
  rw [ownMembersOf_TypeError]
  refine wpAny_newObj_type ?_
  refine wpC_bind (wpC_mark (wpC_any (wpAny_raiseNew_none hh ?_)))
  exact h _ _ _ ⟨fun b o hb => Heap.get?_push_of_some _ (Heap.get?_push_of_some _ hb), Heap.get?_none_of_le (by simp), _, .ref s.heap.objs.size, Heap.get?_push_size _ rfl, rfl, by simp⟩
end
end Mine
end

section
set_option maxHeartbeats 4000000
namespace Mine
theorem resetTd : True := by
  k_with_none
  w_top off
  trivial
theorem fill : PySem.Challenge.rw_dg5011_01 = PySem.Challenge.rw_dg5011_01 ∧ hd.heap_39 = hd.heap_39 := by
  k_fill
  exact ⟨rfl, rfl⟩
section
variable {w : World} {A : Around} {R : Result → Shared → Prop} {s : Shared} {h₀ : Heap} {L : Addr} {m : Str → Option Value}
abbrev PW : Program := PySem.Challenge.pw_dg5011_01
abbrev tcode (rest : List Value) : Code := .builtin "type.__call__" ⟨.ref 361 :: rest, []⟩
/-- what the making asks of the call of __new__ -/
def TdBack (w : World) (R : Result → Shared → Prop) (r : Result) (s' : Shared) : Prop := match r with
  | .ok (.ret v) => (∃ y o, v = .ref y ∧ s'.heap.get? y = some o ∧ o.cls = .ref 361 ∧ notCls o = true) ∧ (hd.heap_39 w.params).In s'.heap ∧ R (.ok (.ret v)) s'
  | .ok _ => False
  | .error e => R (.error e) s'
theorem made361 (P : Params) (S : Setting) : peek (hd.heap_39 P) S (Bind.madeBy (.ref 361)) = some none := by kernel_rfl
theorem mro361 (P : Params) (S : Setting) : peek (hd.heap_39 P) S (mroOf (.ref 361)) = some [.ref 361, .type "tuple", .type "object"] := by kernel_rfl
theorem call361 (P : Params) : specialIn (hd.heap_39 P) (.ref 361) "__call__" = some (some (.builtin "type.__call__")) := by k_is
theorem inst361 (P : Params) : instIn (hd.heap_39 P) (.ref 361) (.type "type") = some true := by k_is
theorem sub361 (P : Params) : mroIn (hd.heap_39 P) 361 (.ref 361) = some true := by k_is
theorem subT361 (P : Params) : mroIn (hd.heap_39 P) 361 (.type "tuple") = some true := by k_is
theorem subO361 (P : Params) : mroIn (hd.heap_39 P) 361 (.type "object") = some true := by k_is
theorem init361 (P : Params) : findIn (hd.heap_39 P) (.ref 361) "__init__" = some (some (.builtin "object.__init__")) := by k_is
theorem new361 (P : Params) : findCls (hd.heap_39 P) (.ref 361) (.type "type") "__new__" = some (.get (.builtin "staticmethod.__get__") (.ref 362) .none (.ref 361)) := by k_is
theorem reads361 (P : Params) : readsIn (hd.heap_39 P) 361 (.type "type") = true := by k_is
theorem rec362 (P : Params) : recIn (hd.heap_39 P) 362 "staticmethod" = some [.ref 305] := by k_is
theorem type361 (P : Params) : typeIn (hd.heap_39 P) (.ref 361) = some (.type "type") := by k_is
theorem o361 (P : Params) : ∃ o cd, (hd.heap_39 P).lookup 361 = some o ∧ o.data = .cls cd := ⟨_, _, by k_is, rfl⟩

theorem oi_check (y a b c d : Value) : argsOk "object.__init__" ⟨[y, a, b, c, d], []⟩ := by unfold argsOk; kernel_rfl
theorem td_callAny {a b c d : Value} (F : Fr h₀ L s.heap m) (X₀ : (hd.heap_39 w.params).In h₀)
    (h : codeAny (model PW w) (A.under (tcode [a, b, c, d])) (.call (.ref 305) ⟨[.ref 361, a, b, c, d], []⟩) (TdBack w R) { s with toks := s.toks + 1 }) :
    codeAny (model PW w) A (.call (.ref 361) ⟨[a, b, c, d], []⟩) R s := by
  have X : (hd.heap_39 w.params).In s.heap := X₀.keeps F.keep
  obtain ⟨oC, cd, ho, hd⟩ := o361 w.params
  have hC := X _ _ ho
  obtain ⟨oc, od, odt, sl⟩ := oC
  dsimp only at hd
  subst hd
  refine codeAny_of_tree ?_
  show wpAny _ _ (callAny (.ref 361) _) _ _ _
  refine nd_load hC ?_
  show wpAny _ _ (callAny.viaDunder (.ref 361) _) _ _ _
  unfold callAny.viaDunder
  refine wpAny_bind ((looks_specialIn X (call361 w.params)).here ?_)
  dsimp only
  rw [tc_bind]
  refine wpAny_bind (wpAny_pure (wpAny_bind (wpAny_pure ?_)))
  refine wpAny_pure (a := Fin.again (.call (.builtin "type.__call__") ⟨[.ref 361, a, b, c, d], []⟩)) (And.intro rfl ?_)
  refine codeAny_call_builtin_at (Code.quiet_builtin _ (by decide +kernel)) entry_typeCall (@check_slot (model PW w) _ _ _ "type.__call__" "type" "__call__" (.ref 361) [a, b, c, d] [] _ tc_kind tc_split (looks_instIn X (inst361 w.params)) (tc_args (.ref 361) [a, b, c, d] []) ?_)
  unfold Builtin.«type.__call__»
  dsimp only
  refine wpAny_bind ((Looks.of_peek X (mro361 _ _)).here ?_)
  simp only [List.isEmpty_cons, Bool.false_eq_true, if_false]
  refine wpAny_bind ((Looks.of_peek X (made361 _ _)).here ?_)
  dsimp only
  refine wpAny_bind (cls_sm F X₀ (type361 _) (reads361 _) (new361 _) (rec362 _) rfl ?_)
  refine wpAny_bind (wpAny_holding (wpAny_call (codeAny_mono h fun r s' z => ?_)))
  rcases r with e | (v | _ | _ | _)
  · exact z
  · exact z.elim
  · exact z.elim
  · exact z.elim
  · obtain ⟨⟨y, o, rfl, hy, hc, hn⟩, X', hR⟩ := z
    have L0 : Looks (model PW w) s'.heap (typeOf (.ref y)) (.ref 361) := hc ▸ (Looks.ld hy).andThen .now
    have Li : Looks (model PW w) s'.heap (isInstance (.ref y) (.ref 361)) true := L0.andThen (looks_mroIn X' (sub361 _))
    have Lo : Looks (model PW w) s'.heap (isInstance (.ref y) (.type "object")) true := L0.andThen (looks_mroIn X' (subO361 _))
    refine wpAny_bind (Li.here ?_)
    simp only [Bool.not_true, Bool.false_eq_true, if_false]
    refine wpAny_bind (wpAny_holding (wpAny_bind (wpAny_bind (L0.here ((looks_findIn X' (init361 _)).here (wpAny_holding ?_))))))
    rw [oi_bind]
    refine wpAny_bind (wpAny_pure (wpAny_bind (wpAny_call ?_)))
    refine codeAny_call_builtin oi_plain entry_oi (@check_slot (model PW w) _ _ _ "object.__init__" "object" "__init__" (.ref y) [a, b, c, d] [] _ oi_kind oi_split Lo (oi_check (.ref y) a b c d) ?_)
    unfold Builtin.«object.__init__»
    dsimp only
    simp only [List.isEmpty_cons, Bool.not_false, Bool.true_or, if_true, List.cons_append, List.nil_append]
    refine wpAny_bind (L0.here (wpAny_bind ((looks_findIn X' (init361 _)).here (wpAny_bind ((Looks.of_peek X' (made361 _ _)).here ?_)))))
    simp only [bne_self_eq_false, Bool.false_eq_true, if_false]
    rw [if_neg (by decide)]
    exact wpAny_pure (wpAny_pure (show wpAny _ _ (ret (.ref y)) _ _ _ from wpAny_pure hR))

abbrev tdObj (dx : Addr) (vs : List Value) : Obj := { cls := .ref 361, dict := some dx, data := .seq vs.toArray }
theorem tn_check (P : Params) (S : Setting) (tp : Addr) : peek (hd.heap_39 P) S (checkBuiltinCall "tuple.__new__" ⟨[.ref 361, .ref tp], []⟩) = some () := by kernel_rfl
theorem tn_isType (P : Params) (S : Setting) : peek (hd.heap_39 P) S (isType (.ref 361)) = some true := by kernel_rfl
theorem tn_here (P : Params) (S : Setting) : peek (hd.heap_39 P) S (Bind.madeHere "tuple.__new__" (.ref 361)) = some () := by kernel_rfl
theorem nodel361 (P : Params) (S : Setting) : peek (hd.heap_39 P) S (classHasDel 361) = some false := by kernel_rfl
variable {E : Value → Shared → Prop} {news : List (Addr × Obj)}
theorem tn_call {tp : Addr} {vs : List Value} {n : Nat} {Q : Value → Shared → Prop} (F : Fr h₀ L s.heap m) (X₀ : (hd.heap_39 w.params).In h₀) (N : News h₀ L s.heap news) (htp : (tp, ({ cls := .type "tuple", data := .seq vs.toArray n } : Obj)) ∈ news) (hz : vs.length ≤ sizeLine)
    (h : ∀ y dx h', Fr h₀ L h' m → News h₀ L h' ((y, tdObj dx vs) :: (dx, emptyDict) :: news) → (∀ p ∈ news, p.1 < dx) → dx < y → Q (.ref y) { s with heap := h' }) :
    wpAny (model PW w) A (call (.builtin "tuple.__new__") [.ref 361, .ref tp]) Q E s := by
  have X : (hd.heap_39 w.params).In s.heap := X₀.keeps F.keep
  refine wpAny_call (codeAny_call_builtin PySem.F.plain_tuple_new PySem.F.entry_tuple_new ((Looks.of_peek X (tn_check _ _ _)).here ?_))
  unfold Builtin.«tuple.__new__»
  dsimp only
  refine wpAny_bind ((Looks.of_peek X (tn_isType _ _)).here ?_)
  simp only [Bool.not_true, Bool.false_eq_true, if_false]
  refine wpAny_bind ((looks_mroIn X (subT361 _)).here ?_)
  simp only [Bool.not_true, Bool.false_eq_true, if_false]
  refine wpAny_bind ((Looks.of_peek X (tn_here _ _)).here ?_)
  refine wpAny_bind ((looks_findIn X (init361 _)).here ?_)
  rw [if_pos (by decide)]
  refine wpAny_bind (wpAny_of_eq (a := ()) (by kernel_rfl) ?_)
  refine wpAny_bind (wpAny_of_eq (a := ()) (by kernel_rfl) ?_)
  rw [if_neg (by decide)]
  refine wpAny_bind (wpAny_collect_seq tp (.inr rfl) (N _ htp).1 rfl rfl (fun h' hk => ?_) (by rw [List.size_toArray]; exact hz))
  refine wpAny_bind (wpAny_pure (wpAny_bind (wpAny_alloc (wpAny_bind ?_))))
  have F1 : Fr h₀ L h' m := by
    obtain ⟨oL, es, ep, hL, r⟩ := F.ns
    exact ⟨⟨oL, es, ep, hk _ _ hL, r⟩, fun b x q => hk _ _ (F.keep b x q), F.above⟩
  have N1 : News h₀ L h' news := fun p hp => ⟨hk _ _ (N p hp).1, (N p hp).2⟩
  have N2 := (N1.push F1 emptyDict).push (F1.push _) (tdObj h'.objs.size vs)
  rw [Heap.size_push] at N2
  unfold newObj
  dsimp only
  have hz' : vs.toArray.toList.toArray.size ≤ sizeLine := by simpa using hz
  rw [if_neg (Nat.not_lt.mpr hz')]
  have F2 := (F1.push emptyDict).push (tdObj h'.objs.size vs)
  have X2 := X₀.keeps F2.keep
  refine wpAny_bind (wpAny_alloc (wpAny_bind ((Looks.of_peek X2 (nodel361 _ _)).here ?_)))
  rw [if_neg Bool.false_ne_true]
  refine wpAny_pure (wpAny_pure ?_)
  have z := h (h'.objs.size + 1) h'.objs.size _ F2 N2 (fun p hp => Heap.lt_size (N1 p hp).1) (Nat.lt_succ_self _)
  show Q (.ref (h'.push emptyDict).objs.size) _
  rw [Heap.size_push]
  exact z
end
end Mine
end

section
set_option maxHeartbeats 8000000
namespace Mine
theorem resetTdNew : True := by
  k_with_none
  w_top off
  trivial
theorem fillTdNew : PySem.Challenge.rw_dg5011_01 = PySem.Challenge.rw_dg5011_01 ∧ hd.heap_39 = hd.heap_39 := by
  k_fill
  exact ⟨rfl, rfl⟩
local macro_rules | `(tactic| walk_at "con_enter") => `(tactic| (refine' code_own ?k1 ?k2 ?k3 ?k4 ?k5 ?kA ?kF ?kK ?k6 ?k7 ?k8 ?kB ?k9 ?_ ?c2 ?c3 ?c4 ?c5; (case kA => exact rfl); (case kF => exact rfl); (case kK => assumption); (case k1 => k_asm); (case k2 => k_asm); (case k3 => k_asm); (case k4 => k_asm); (case k5 => k_asm); (case k6 => k_is); (case k7 => k_is); (case k8 => ktr_room); (case kB => exact BindsTo.of_eq rfl); (case c5 => decide); (case k9 => exact locs rfl); (case c2 => exact rfl); (case c3 => exact rfl); (case c4 => exact rfl); k_whole))
theorem meta_tuple : typeOf (.type "tuple") = pure (.type "type") := by kernel_rfl
local macro_rules | `(tactic| walk_at "getMethod type:tuple") => `(tactic| (k_here; refine' method_type ?F ?X ?m (by decide +kernel) ?e ?h ?_; (case F => k_asm); (case X => k_asm); (case m => exact meta_tuple); (case e => k_dflt k_is); (case h => k_handed)))
local macro_rules | `(tactic| walk_at "call builtin:tuple.__new__") => `(tactic| (k_here; k_dflt (refine' tn_call ?F ?X ?N ?m ?z ?_; (case F => k_asm); (case X => k_asm); (case N => k_asm); (case m => k_mem); (case z => exact Nat.le_of_ble_eq_true rfl); k_whole); intro y' d' h' F' N' l1 l2; (try k_lt l1); (try k_lt2 l2); (try k_sweep)))
theorem td_out {h₀ h' : Heap} {L y dx : Addr} {m : Str → Option Value} {news : List (Addr × Obj)} {o3 : Addr × Obj} {vs : List Value} {s : Shared} {tk : Nat} {Q : Value → Shared → Prop}
    (hret : ∀ r tl h' tk', Fr h₀ L h' m → News h₀ L h' (tl ++ news) → (∀ q ∈ tl, s.heap.get? q.1 = none) → (∃ y dx, r = Value.ref y ∧ tl = [(y, tdObj dx vs), (dx, emptyDict)]) → Q r { s with heap := h', toks := tk' })
    (kF : Fr h₀ L h' m) (Z : News h₀ L h' ([(y, tdObj dx vs), (dx, emptyDict), o3] ++ news)) (W : ∀ q ∈ [(y, tdObj dx vs), (dx, emptyDict), o3], s.heap.get? q.1 = none) : Q (.ref y) { s with heap := h', toks := tk } := by
  refine hret (.ref y) [(y, tdObj dx vs), (dx, emptyDict)] h' tk kF (fun p hp => Z p ?_) (fun q hq => W q (List.mem_append_left [o3] hq)) ⟨y, dx, rfl, rfl⟩
  rcases List.mem_append.mp hp with hp | hp
  · exact List.mem_append_left _ (List.mem_append_left [o3] hp)
  · exact List.mem_append_right _ hp
theorem td_new (w : World) (a b c d : Value) :
   Con w 4 40 (.ref 361) [a, b, c, d] [] (fun r tl => ∃ y dx, r = .ref y ∧ tl = [(y, tdObj dx [a, b, c, d]), (dx, emptyDict)]) := by
  intro loose mean mg mb dp un gd cn cs ca ccd cl outer A₀ base h₀ L m news s Q E B F X N T hk ho hdp hun hret
  have N1 : News h₀ L s.heap [] := fun p hp => nomatch hp
  refine wpAny_call (td_callAny F X ?_)
  have F1 : Fr h₀ L ({ s with toks := s.toks + 1 } : Shared).heap m := F
  have N2 : News h₀ L ({ s with toks := s.toks + 1 } : Shared).heap [] := N1
  k_dflt (walk_at "con_enter")
  intro g' L' h' hg' hL' FG' F' N' hlt' B' X' T'
  (try dsimp only)
  (try k_fold)
  k_steps
  rename News h₀ L _ _ => kN
  rename Fr h₀ L _ _ => kF
  rename News g' _ _ _ => Ng
  rename Fr g' _ _ _ => Fg
  have Z := con_back (tl := [_, _, _]) (own := []) N hg' Fg kN ho
  have W := con_fresh (own := []) (tl := [_, _, _]) hg' Ng (by intro q hq p hp; cases hp)
  refine ⟨⟨_, _, rfl, (kN _ (.head _)).1, rfl, rfl⟩, X.keeps kF.keep, ?_⟩
  exact td_out hret kF Z W
end Mine
end

section
set_option maxHeartbeats 4000000
namespace Mine
theorem resetTdGet : True := by
  k_with_none
  w_top off
  trivial
theorem fillTdGet : PySem.Challenge.rw_dg5011_01 = PySem.Challenge.rw_dg5011_01 ∧ hd.heap_39 = hd.heap_39 := by
  k_fill
  exact ⟨rfl, rfl⟩
section
variable {w : World} {A : Around} {E : Value → Shared → Prop} {s : Shared} {h₀ : Heap} {L : Addr} {m : Str → Option Value} {news : List (Addr × Obj)}
theorem td_inst {h : Heap} {y dx : Addr} {vs : List Value} (N : News h₀ L h news) (h1 : (y, tdObj dx vs) ∈ news) (h2 : (dx, emptyDict) ∈ news) : InstAt h y (tdObj dx vs) 361 (some emptyDict) :=
  ⟨(N _ h1).1, rfl, rfl, (N _ h2).1⟩
theorem iss_check : checkBuiltinCall "issubclass" ⟨[.ref 361, .type "tuple"], []⟩ = pure () := by kernel_rfl
theorem iss_call {Q : Value → Shared → Prop} (F : Fr h₀ L s.heap m) (X₀ : (hd.heap_39 w.params).In h₀) (h : Q (.bool true) s) : wpAny (model PW w) A (call (.builtin "issubclass") [.ref 361, .type "tuple"]) Q E s := by
  have X : (hd.heap_39 w.params).In s.heap := X₀.keeps F.keep
  refine wpAny_call ?_
  refine codeAny_call_builtin PySem.F.plain_issubclass PySem.F.entry_issubclass ?_
  rw [iss_check]
  refine wpAny_pure ?_
  refine issubclass_outer ?_
  unfold Builtin.«issubclass.nested» rawInt
  dsimp only
  refine wpAny_bind (wpAny_of_eq meta_tuple ?_)
  rw [if_pos (by decide)]
  refine wpAny_bind ?_
  show wpAny _ _ (isType (.ref 361) >>= _) _ _ _
  refine wpAny_bind ((Looks.of_peek X (tn_isType _ _)).here ?_)
  refine wpAny_bind (wpAny_pure ?_)
  rw [if_pos (by decide)]
  exact (looks_mroIn X (subT361 _)).here (wpAny_pure h)
theorem kind_tg : builtinKind "tuple.__getitem__" = some .slot := by decide +kernel
theorem split_tg : splitId "tuple.__getitem__" = some ("tuple", "__getitem__") := by decide +kernel
theorem plain_tg : plainId "tuple.__getitem__" = true := by decide +kernel
theorem tg_call {y dx : Addr} {vs : List Value} {k : Int} {j : Nat} {u : Tok} {v : Value} {Q : Value → Shared → Prop} (F : Fr h₀ L s.heap m) (X₀ : (hd.heap_39 w.params).In h₀) (N : News h₀ L s.heap news) (h1 : (y, tdObj dx vs) ∈ news)
    (hlo : -(2 ^ 63) ≤ k) (hhi : k < 2 ^ 63) (hj : seqIndex? k vs.length = some j) (hx : vs[j]? = some v) (h : Q v s) : wpAny (model PW w) A (call (.builtin "tuple.__getitem__") [.ref y, .int k u]) Q E s := by
  have X : (hd.heap_39 w.params).In s.heap := X₀.keeps F.keep
  have hy := (N _ h1).1
  have L0 : Looks (model PW w) s.heap (typeOf (.ref y)) (.ref 361) := (Looks.ld hy).andThen .now
  have Li : Looks (model PW w) s.heap (isInstance (.ref y) (.type "tuple")) true := L0.andThen (looks_mroIn X (subT361 _))
  refine wpAny_call ?_
  refine codeAny_call_builtin plain_tg entry_tuple_getitem ?_
  refine @check_slot (model PW w) _ _ _ "tuple.__getitem__" "tuple" "__getitem__" (.ref y) [.int k u] [] _ kind_tg split_tg Li (args_tuple_getitem (.ref y) (.int k u)) ?_
  show wpAny _ _ (Builtin.Tuple.tupleItemsOf (.ref y) >>= _) _ _ s
  refine wpAny_bind (wpAny_bind (wpAny_seqItems hy rfl (wpAny_pure ?_)))
  refine wpAny_bind (wpAny_typeOf (typeIs_int s k u) ?_)
  rw [if_neg (by decide)]
  refine wpAny_bind (wpAny_specialOf (T := "int") (typeIs_int s k u) int_index ?_)
  rw [if_neg (by simp)]
  refine wpAny_bind (wpAny_of_eq (a := k) rfl ?_)
  rw [if_neg (by simp only [Bool.or_eq_true, decide_eq_true_eq]; omega)]
  have hj' : seqIndex? k vs.toArray.size = some j := by rw [List.size_toArray]; exact hj
  have hx' : vs.toArray[j]? = some v := by simpa using hx
  simp only [hj', Option.bind_some, hx']
  exact wpAny_pure h
end
end Mine
end

section
set_option maxHeartbeats 8000000
namespace Mine
local macro_rules | `(tactic| walk_at "none 0") => `(tactic| fail)
local macro_rules | `(tactic| walk_at "none 1") => `(tactic| fail)
local macro_rules | `(tactic| walk_at "none 2") => `(tactic| fail)
local macro_rules | `(tactic| walk_at "none 3") => `(tactic| fail)
theorem resetTdG : True := by
  k_with_none
  w_top off
  trivial
theorem fillTdG : PySem.Challenge.rw_dg5011_01 = PySem.Challenge.rw_dg5011_01 ∧ hd.heap_39 = hd.heap_39 := by
  k_fill
  exact ⟨rfl, rfl⟩
local macro_rules | `(tactic| walk_at "con_enter") => `(tactic| (refine' code_own ?k1 ?k2 ?k3 ?k4 ?k5 ?kA ?kF ?kK ?k6 ?k7 ?k8 ?kB ?k9 ?_ ?c2 ?c3 ?c4 ?c5; (case kA => exact rfl); (case kF => exact rfl); (case kK => assumption); (case k1 => k_asm); (case k2 => k_asm); (case k3 => k_asm); (case k4 => k_asm); (case k5 => k_asm); (case k6 => k_is); (case k7 => k_is); (case k8 => ktr_room); (case kB => first | exact BindsTo.of_eq rfl | exact binds_K (by k_in) rfl (by k_is) rfl rfl rfl); (case c5 => decide); (case k9 => exact locs rfl); (case c2 => exact rfl); (case c3 => exact rfl); (case c4 => exact rfl); k_whole))
local macro_rules | `(tactic| walk_at "getMethod type:tuple") => `(tactic| (k_here; refine' method_type ?F ?X ?m (by decide +kernel) ?e ?h ?_; (case F => k_asm); (case X => k_asm); (case m => exact meta_tuple); (case e => k_dflt k_is); (case h => k_handed)))
local macro_rules | `(tactic| walk_at "call type:type") => `(tactic| (k_here; (with_reducible show wpAny _ _ (call (Value.type "type") [Value.ref _]) _ _ _); k_dflt (refine' kto_own (td_inst ?N ?a ?b) ?_; (case N => k_asm); (case a => k_mem); (case b => k_mem); k_whole)))
local macro_rules | `(tactic| walk_at "call builtin:issubclass") => `(tactic| (k_here; k_dflt (refine' iss_call ?F ?X ?_; (case F => k_asm); (case X => k_asm); k_whole)))
local macro_rules | `(tactic| walk_at "call builtin:tuple.__getitem__") => `(tactic| (k_here; k_dflt (refine' tg_call ?F ?X ?N ?m ?a ?b ?c ?d ?_; (case F => k_asm); (case X => k_asm); (case N => k_asm); (case m => k_mem); (case a => decide); (case b => decide); (case c => rfl); (case d => rfl); k_whole)))
theorem td_get0 (w : World) (y dx : Addr) (a b c d : Value) :
   Con w 4 40 (.ref 266) [.ref 347, .ref y, .ref 361] [(y, tdObj dx [a, b, c, d]), (dx, emptyDict)] (fun r tl => r = a ∧ tl = []) := by
  intro loose mean mg mb dp un gd cn cs ca ccd cl outer A₀ base h₀ L m news s Q E B F X N T hk ho hdp hun hret
  have N1 : News h₀ L s.heap [(y, tdObj dx [a, b, c, d]), (dx, emptyDict)] := fun p hp => N p (ho p hp)
  refine wpAny_call ?_
  k_dflt (walk_at "con_enter")
  intro g' L' h' hg' hL' FG' F' N' hlt' B' X' T'
  (try dsimp only)
  (try k_fold)
  k_steps
  exact hret _ [] _ _ (by assumption) (con_back (tl := []) N hg' (by assumption) (by assumption) ho) (by intro q h; cases h) ⟨rfl, rfl⟩
theorem td_get1 (w : World) (y dx : Addr) (a b c d : Value) :
   Con w 4 40 (.ref 266) [.ref 350, .ref y, .ref 361] [(y, tdObj dx [a, b, c, d]), (dx, emptyDict)] (fun r tl => r = b ∧ tl = []) := by
  intro loose mean mg mb dp un gd cn cs ca ccd cl outer A₀ base h₀ L m news s Q E B F X N T hk ho hdp hun hret
  have N1 : News h₀ L s.heap [(y, tdObj dx [a, b, c, d]), (dx, emptyDict)] := fun p hp => N p (ho p hp)
  refine wpAny_call ?_
  k_dflt (walk_at "con_enter")
  intro g' L' h' hg' hL' FG' F' N' hlt' B' X' T'
  (try dsimp only)
  (try k_fold)
  k_steps
  exact hret _ [] _ _ (by assumption) (con_back (tl := []) N hg' (by assumption) (by assumption) ho) (by intro q h; cases h) ⟨rfl, rfl⟩
theorem td_get2 (w : World) (y dx : Addr) (a b c d : Value) :
   Con w 4 40 (.ref 266) [.ref 353, .ref y, .ref 361] [(y, tdObj dx [a, b, c, d]), (dx, emptyDict)] (fun r tl => r = c ∧ tl = []) := by
  intro loose mean mg mb dp un gd cn cs ca ccd cl outer A₀ base h₀ L m news s Q E B F X N T hk ho hdp hun hret
  have N1 : News h₀ L s.heap [(y, tdObj dx [a, b, c, d]), (dx, emptyDict)] := fun p hp => N p (ho p hp)
  refine wpAny_call ?_
  k_dflt (walk_at "con_enter")
  intro g' L' h' hg' hL' FG' F' N' hlt' B' X' T'
  (try dsimp only)
  (try k_fold)
  k_steps
  exact hret _ [] _ _ (by assumption) (con_back (tl := []) N hg' (by assumption) (by assumption) ho) (by intro q h; cases h) ⟨rfl, rfl⟩
theorem td_get3 (w : World) (y dx : Addr) (a b c d : Value) :
   Con w 4 40 (.ref 266) [.ref 356, .ref y, .ref 361] [(y, tdObj dx [a, b, c, d]), (dx, emptyDict)] (fun r tl => r = d ∧ tl = []) := by
  intro loose mean mg mb dp un gd cn cs ca ccd cl outer A₀ base h₀ L m news s Q E B F X N T hk ho hdp hun hret
  have N1 : News h₀ L s.heap [(y, tdObj dx [a, b, c, d]), (dx, emptyDict)] := fun p hp => N p (ho p hp)
  refine wpAny_call ?_
  k_dflt (walk_at "con_enter")
  intro g' L' h' hg' hL' FG' F' N' hlt' B' X' T'
  (try dsimp only)
  (try k_fold)
  k_steps
  exact hret _ [] _ _ (by assumption) (con_back (tl := []) N hg' (by assumption) (by assumption) ho) (by intro q h; cases h) ⟨rfl, rfl⟩
end Mine
end

section
set_option maxHeartbeats 4000000
namespace Mine
theorem resetTdAttr : True := by
  k_with_none
  w_top off
  trivial
theorem fillTdAttr : PySem.Challenge.rw_dg5011_01 = PySem.Challenge.rw_dg5011_01 ∧ hd.heap_39 = hd.heap_39 := by
  k_fill
  exact ⟨rfl, rfl⟩
section
variable {w : World} {A : Around} {E : Value → Shared → Prop} {s : Shared} {h₀ : Heap} {L : Addr} {m : Str → Option Value} {news : List (Addr × Obj)} {name : Str}
theorem ga361 (P : Params) : findIn (hd.heap_39 P) (.ref 361) "__getattribute__" = some (some (.builtin "tuple.__getattribute__")) := by k_is
theorem gat361 (P : Params) : findIn (hd.heap_39 P) (.ref 361) "__getattr__" = some none := by k_is
theorem entry_tga : entryFor table "tuple.__getattribute__" = some Builtin.«object.__getattribute__» :=
  entryFor_alias (id' := "object.__getattribute__") (by rw [fastTable_eq_tree]; kernel_rfl) (by decide +kernel) (by decide +kernel) (by rw [fastTable_eq_tree]; kernel_rfl)
theorem kind_tga : builtinKind "tuple.__getattribute__" = some .slot := by decide +kernel
theorem split_tga : splitId "tuple.__getattribute__" = some ("tuple", "__getattribute__") := by decide +kernel
theorem plain_tga : plainId "tuple.__getattribute__" = true := by decide +kernel
theorem slot_run (a b : Value) : slotArgs "__getattribute__" 1 ⟨[a, b], []⟩ = pure (a, [b]) := by kernel_rfl
theorem findTd {P : Params} {t : Addr} (ha : findIn (hd.heap_39 P) (.ref 361) name = some (some (.ref t))) (hg : specialIn (hd.heap_39 P) (.ref t) "__get__" = some (some (.ref 266))) (ht : takesIn (hd.heap_39 P) (.ref t) = some true) :
    findObj (hd.heap_39 P) 361 (some emptyDict) name = some (.bind (.ref 266) (.ref t)) :=
  findObj_data (by obtain ⟨o, cd, ho, hd⟩ := o361 P; obtain ⟨oc, od, odt, sl⟩ := o; dsimp only at hd; subst hd; unfold clsIn; rw [ho]; rfl) ha hg ht
theorem td_attr {expr : Bool} {y dx t : Addr} {vs : List Value} {Q : Value → Shared → Prop} (F : Fr h₀ L s.heap m) (X₀ : (hd.heap_39 w.params).In h₀) (N : News h₀ L s.heap news) (h1 : (y, tdObj dx vs) ∈ news) (h2 : (dx, emptyDict) ∈ news)
    (hf : findObj (hd.heap_39 w.params) 361 (some emptyDict) name = some (.bind (.ref 266) (.ref t)))
    (h : wpAny (model PW w) A.in1 (call (.ref 266) [.ref t, .ref y, .ref 361]) (fun v s' => wpAny (model PW w) A (handedOut v) Q E s') (fun _ _ => False) { s with toks := s.toks + 1 }) :
    wpAny (model PW w) A (getAttr (.ref y) name expr) Q E s := by
  obtain ⟨hh, g, d, tk, os⟩ := s
  have I := td_inst N h1 h2
  have X : (hd.heap_39 w.params).In hh := X₀.keeps F.keep
  have L0 := I.type (M := model PW w)
  have L1 := looks_findIn (M := model PW w) X (ga361 _)
  have L2 := looks_findIn (M := model PW w) X (gat361 _)
  have L3 := looks_find (M := model PW w) X I hf
  have Li : Looks (model PW w) hh (isInstance (.ref y) (.type "tuple")) true := L0.andThen (looks_mroIn X (subT361 _))
  unfold getAttr getAttrBy
  refine wpAny_bind (wpAny_mkText (wpAny_holding (wpAny_bind (L0.at (wpAny_bind (L1.at ?_))))))
  show wpAny _ _ (getAttrByItsOwn _ _ _ _ _ _) _ _ _
  unfold getAttrByItsOwn
  refine wpAny_bind ?_
  show wpAny _ _ (typeLookup (.ref 361) "__getattr__") _ _ _
  refine L2.at ?_
  refine wpAny_bind (wpAny_attempt (wpAny_holding ?_))
  have e : callGetattribute (.ref y) (.str name tk) (.builtin "tuple.__getattribute__") expr = boundAndCalled (.builtin "tuple.__getattribute__") (.ref y) (.str name tk) := by
    unfold callGetattribute
    cases expr <;> rfl
  rw [e]
  unfold boundAndCalled
  rw [PySem.F.slot_tuple_getattribute.bind]
  refine wpAny_bind (wpAny_pure ?_)
  refine wpAny_call ?_
  refine codeAny_call_builtin plain_tga entry_tga ?_
  refine @check_slot (model PW w) _ _ _ "tuple.__getattribute__" "tuple" "__getattribute__" (.ref y) [.str name tk] [] _ kind_tga split_tga Li (PySem.F.args_tuple_getattribute_2 (.ref y) (.str name tk)) ?_
  unfold Builtin.«object.__getattribute__»
  refine wpAny_bind (wpAny_of_eq (slot_run _ _) ?_)
  refine (wpAny_bind (wpAny_pure (wpAny_bind (L0.at (wpAny_bind (L3.at ?_))))))
  show wpAny _ _ (holding [.ref t] (call (.ref 266) [.ref t, .ref y, .ref 361]) >>= ret) _ _ _
  refine wpAny_bind (wpAny_holding (wpAny_mono h (fun v s' z => wpAny_pure ?_) fun _ _ z => z.elim))
  exact z
end
end Mine
end

section
set_option maxHeartbeats 4000000
namespace Mine
theorem resetTdRef : True := by
  k_with_none
  w_top off
  trivial
theorem fillTdRef : PySem.Challenge.rw_dg5011_01 = PySem.Challenge.rw_dg5011_01 ∧ hd.heap_39 = hd.heap_39 := by
  k_fill
  exact ⟨rfl, rfl⟩
section
variable {w : World} {A : Around} {R : Result → Shared → Prop} {s : Shared} {h₀ : Heap} {L : Addr} {m : Str → Option Value}
theorem bind_short {prog : Program} {E : Value → Shared → Prop} {fd : FuncData} {ps : List Value} {Q : List (Str × Value) → Shared → Prop} {c : Value} (hd : seqItems? fd.defaults = pure none) (hpo : fd.params.posonlyargs = []) (hpa : fd.params.args.map (·.arg) = [("_cls" : Str), ("type" : Str), ("value" : Str), ("units" : Str), ("id" : Str)]) (hq : fd.qualname = "Transducer.__new__")
   (hps : ps = [c] ∨ (∃ x, ps = [c, x]) ∨ (∃ x y, ps = [c, x, y]) ∨ (∃ x y z, ps = [c, x, y, z])) (hh : A.handled = none)
   (h : ∀ h' tk e, Heap.NewExc s.heap h' e "TypeError" → E (.ref e) { s with heap := h', toks := tk }) : wpC (model prog w) A (bindArgs fd ⟨ps, []⟩) Q E s := by
  unfold bindArgs
  dsimp only
  rw [hd]
  refine wpC_bind (wpC_of_eq (a := _) (by rfl) ?_)
  refine wpC_bind (wpC_of_eq (a := _) (by rfl) ?_)
  rw [if_neg (by rw [hpo, hpa]; rcases hps with rfl | ⟨x, rfl⟩ | ⟨x, y, rfl⟩ | ⟨x, y, z, rfl⟩ <;> simp)]
  rw [if_pos (by rw [hpo, hpa]; rcases hps with rfl | ⟨x, rfl⟩ | ⟨x, y, rfl⟩ | ⟨x, y, z, rfl⟩ <;> kernel_rfl)]
  refine wpC_bind (wpC_any (wpAny_rule ?_))
  refine wpC_bind (wpC_refuse hh h ?_)
  rw [hpo, hpa, hq]
  rcases hps with rfl | ⟨x, rfl⟩ | ⟨x, y, rfl⟩ | ⟨x, y, z, rfl⟩ <;> exact Nat.le_of_ble_eq_true (by kernel_rfl)
theorem codeC_call_builtin {id : String} {args : Args} {b : Builtin} (hq : (Code.builtin id args).quiet = true) (hb : entryFor table id = some b)
    (h : wpAny (model PW w) A.in1 (checkBuiltinCall id args) (fun _ s₁ => wpC (model PW w) (A.under (.builtin id args)) (b args)
      (fun fin s' => match fin with | .done f => R (.ok f) s' | .again c' => c'.quiet = true ∧ codeC (model PW w) A c' R s') (fun e s' => R (.error e) s') s₁)
      (fun e s' => R (.error e) s') s) : codeC (model PW w) A (.call (.builtin id) args) R s := by
  refine codeC_of_tree (wpC_any ?_)
  show wpAny _ A.in1 (do checkBuiltinCall id args; again (.builtin id args)) _ _ s
  refine wpAny_bind (wpAny_mono h (fun _ s₁ h₁ => wpAny_pure (And.intro hq (codeC_of_tree ?_))) fun _ _ h' => h')
  show wpC _ _ (match entryFor table id with | some b => b args | none => unsupported ((withoutEnding? id "#data").getD id)) _ _ s₁
  rw [hb]; exact h₁
theorem fd305 (P : Params) : ∃ o fd, (hd.heap_39 P).lookup 305 = some o ∧ o.data = .func fd ∧ fd.scope.isCoroutine = false ∧ fd.scope.isGenerator = false ∧ (∃ body, fd.body = .stmts body) ∧ codeIn (hd.heap_39 P) fd.code fd.qualname = true ∧
    seqItems? fd.defaults = pure none ∧ fd.params.posonlyargs = [] ∧ fd.params.args.map (·.arg) = [("_cls" : Str), ("type" : Str), ("value" : Str), ("units" : Str), ("id" : Str)] ∧ fd.qualname = "Transducer.__new__" :=
  ⟨_, _, by k_is, rfl, rfl, rfl, ⟨_, rfl⟩, by k_is, rfl, rfl, rfl, rfl⟩
theorem td_refuse {rest : List Value} (hr : rest = [] ∨ (∃ x, rest = [x]) ∨ (∃ x y, rest = [x, y]) ∨ (∃ x y z, rest = [x, y, z])) (F : Fr h₀ L s.heap m) (X₀ : (hd.heap_39 w.params).In h₀)
    (hroom : A.depth + 1 < recursionLimit) (hh : A.handled = none)
    (h : ∀ h' tk e, Heap.NewExc s.heap h' e "TypeError" → R (.error (.ref e)) { s with heap := h', toks := tk }) :
    codeC (model PW w) A (.call (.ref 361) ⟨rest, []⟩) R s := by
  have X : (hd.heap_39 w.params).In s.heap := X₀.keeps F.keep
  obtain ⟨oC, cd, ho, hd⟩ := o361 w.params
  have hC := X _ _ ho
  obtain ⟨oc, od, odt, sl⟩ := oC
  dsimp only at hd
  subst hd
  refine codeC_of_tree (wpC_any ?_)
  show wpAny _ _ (callAny (.ref 361) _) _ _ _
  refine nd_load hC ?_
  show wpAny _ _ (callAny.viaDunder (.ref 361) _) _ _ _
  unfold callAny.viaDunder
  refine wpAny_bind ((looks_specialIn X (call361 w.params)).here ?_)
  dsimp only
  rw [tc_bind]
  refine wpAny_bind (wpAny_pure (wpAny_bind (wpAny_pure ?_)))
  refine wpAny_pure (a := Fin.again (.call (.builtin "type.__call__") ⟨.ref 361 :: rest, []⟩)) (And.intro rfl ?_)
  refine codeC_call_builtin (Code.quiet_builtin _ (by decide +kernel)) entry_typeCall (@check_slot (model PW w) _ _ _ "type.__call__" "type" "__call__" (.ref 361) rest [] _ tc_kind tc_split (looks_instIn X (inst361 w.params)) (tc_args (.ref 361) rest []) ?_)
  unfold Builtin.«type.__call__»
  dsimp only
  refine wpC_bind (wpC_any ((Looks.of_peek X (mro361 _ _)).here ?_))
  simp only [List.isEmpty_cons, Bool.false_eq_true, if_false]
  refine wpC_bind (wpC_any ((Looks.of_peek X (made361 _ _)).here ?_))
  dsimp only
  refine wpC_bind (wpC_any (cls_sm F X₀ (type361 _) (reads361 _) (new361 _) (rec362 _) rfl ?_))
  obtain ⟨o5, fd, h5, hfd, hco, hgen, ⟨body, hbody⟩, hcode, hdf, hpo, hpa, hqn⟩ := fd305 w.params
  refine wpC_bind (wpC_holding (wpC_call (codeC_call_function ?_ (X _ _ h5) hfd hco hgen hbody (codeRec_of X hcode) ?_)))
  · exact hroom
  · refine bind_short (c := .ref 361) hdf hpo hpa hqn ?_ hh ?_
    · rcases hr with rfl | ⟨x, rfl⟩ | ⟨x, y, rfl⟩ | ⟨x, y, z, rfl⟩
      · exact .inl rfl
      · exact .inr (.inl ⟨x, rfl⟩)
      · exact .inr (.inr (.inl ⟨x, y, rfl⟩))
      · exact .inr (.inr (.inr ⟨x, y, z, rfl⟩))
    · intro h' tk e ne
      exact h h' tk e ne
end
end Mine
end

section
namespace Mine
theorem resetSeen1 : True := by
  k_with_none
  w_top off
  trivial
section
variable {prog : Program} {w : World} {A A₀ : Around} {s : Shared} {K : Frag} {L : Addr} {h₀ base : Heap} {m mg mb : Str → Option Value} {p : Program} {loose : List Str} {mean : ExcName → Option Value}
/-- a def's frame entered, under the caller; the body's end told raw -/
theorem code_rawC {env : Env} {outer : List Env} {R : Result → Shared → Prop} {name qual : Str} {params : Arguments} {body : List Stmt} {scope : Scope} {dV kV doc pm cdv ct oc : Value} {an od : Option Addr} {osl : Array (Option Value)} {f : Addr} {args : Args} {binds : List (Str × Value)} {own : List (Addr × Obj)}
    (B : Below A₀ base outer h₀) (F : Fr h₀ L s.heap m) (X₀ : K.In h₀) (N : News h₀ L s.heap own) (T : Top p loose mean mg mb h₀) (hA : A.frames = some (env :: outer)) (hf : env.frame = some L) (hke : env.scope.kind = .function)
    (ho : K.lookup f = some ⟨oc, od, .func (fnOf name qual params body scope dV kV doc pm an cdv ct), osl⟩) (hcd : codeIn K cdv qual = true) (hroom : A.depth < recursionLimit)
    (hbind : BindsTo s (fnOf name qual params body scope dV kV doc pm an cdv ct) args binds) (hloc : ∀ y ∈ binds, scope.names.lookup y.1 = some .local)
    (h : ∀ g L' h₁, (∀ b o, s.heap.get? b = some o → b ∉ own.map (·.1) → g.get? b = some o) → s.heap.objs.size ≤ L' → Fr h₀ L g m → Fr g L' h₁ (fun y => binds.reverse.lookup y) → News g L' h₁ own → (∀ p ∈ own, p.1 < L') → Below A base (env :: outer) g → K.In g → Top p loose mean mg mb g →
      (∀ v s', LeaveK h₀ L m g R v s' → R (.ok (.ret v)) s') →
      wpC (model prog w) (A.deeper (envOf qual scope L' f cdv)) (execs body (envOf qual scope L' f cdv))
        (fun fl s' => R (.ok (.ret (match fl with | .ret v => v | _ => .none))) s')
        (fun e s' => wpAny (model prog w) (A.deeper (envOf qual scope L' f cdv)) (leaving (envOf qual scope L' f cdv) e) (fun _ s'' => R (.error e) s'') (fun e' s'' => R (.error e') s'') s')
        { s with heap := h₁, toks := s.toks + binds.length })
    (hco : scope.isCoroutine = false) (hgen : scope.isGenerator = false) (hk : scope.kind = .function)
    (hcell : ∀ x ∈ scope.names, x.2 ≠ .cell) : codeC (model prog w) A (.call (.ref f) args) R s := by
  obtain ⟨FG, BG, st, lv⟩ := groundX (R := R) B F N hA hf hke
  have XS : K.In s.heap := X₀.keeps F.keep
  refine codeC_call_function (fd := fnOf name qual params body scope dV kV doc pm an cdv ct) hroom (XS _ _ ho) rfl hco hgen rfl (codeRec_of XS hcd) (wpC_any (hbind _ _ _ _ ?_))
  refine wpAny_newFunctionEnv hcell hloc (fun h₁ hns hsb => ⟨(T.nolimit.keeps F.keep).fresh _ hsb, codeC_func ?_⟩) hk
  have hk₁ : ∀ b o, s.heap.get? b = some o → h₁.get? b = some o := fun b o e => hsb.extBut b o (Nat.ne_of_lt (Heap.lt_size e)) (Heap.get?_push_of_some _ e)
  have N1 : News (hideAll s.heap (own.map (·.1))) s.heap.objs.size h₁ own := fun p hp => ⟨hk₁ _ _ (N p hp).1, Nat.ne_of_lt (Heap.lt_size (N p hp).1), hideAll_none _ (List.mem_map_of_mem hp)⟩
  have F1 : Fr (hideAll s.heap (own.map (·.1))) s.heap.objs.size h₁ (fun y => binds.reverse.lookup y) := ⟨hns, fun b o e => hk₁ b o (of_hideAll _ e), Nat.le_of_eq (hideAll_size _ _)⟩
  exact h _ s.heap.objs.size h₁ (fun b o e n => hideAll_get _ e n) (Nat.le_refl _) FG F1 N1 (fun p hp => Heap.lt_size (N p hp).1) BG (X₀.keeps st) (T.keeps st) lv
end
/-- the contract of a call that may catch a refusal on the way: it stands in the law's own frame -/
def ConS (w : World) (d u : Nat) (f : Value) (args : List Value) (own : List (Addr × Obj)) (Out : Value → List (Addr × Obj) → Prop) : Prop :=
  ∀ (loose : List Str) (mean : ExcName → Option Value) (mg mb : Str → Option Value) (dp un : Nat) (gd : Option (List Code)) (cn : Str) (cs : Scope) (a : Addr) (ccd : Value) (cl : List (Str × Addr)) (A₀ : Around) (h₀ : Heap) (L : Addr) (m : Str → Option Value) (news : List (Addr × Obj)) (s : Shared)
    (Q E : Value → Shared → Prop),
    Below A₀ h₀ [] h₀ → Fr h₀ L s.heap m → (hd.heap_39 w.params).In h₀ → News h₀ L s.heap news → Top hd.view_39 loose mean mg mb h₀ → cs.kind = .function → (∀ p ∈ own, p ∈ news) → dp + d < recursionLimit → un + u < cLine →
    (∀ r tl h' tk', Fr h₀ L h' m → News h₀ L h' (tl ++ news) → (∀ q ∈ tl, s.heap.get? q.1 = none) → Out r tl → Q r { s with heap := h', toks := tk' }) →
    wpC (model PySem.Challenge.pw_dg5011_01 w) (ktrTop dp un gd cn cs L a ccd cl []) (call f args) Q E s

theorem conS_back {h₀ g g' h' : Heap} {L L' : Addr} {m m' : Str → Option Value} {news own tl : List (Addr × Obj)} {s : Shared} (F : Fr h₀ L s.heap m) (N : News h₀ L s.heap news) (hg : ∀ b o, s.heap.get? b = some o → b ∉ own.map (·.1) → g.get? b = some o) (FG : Fr h₀ L g m)
    (T : KtsTurn [L] g g') (F' : Fr g' L' h' m') (kN : News g' L' h' (tl ++ own)) (ho : ∀ p ∈ own, p ∈ news) (ha : ∀ q ∈ tl, ∀ p ∈ own, p.1 ≠ q.1) :
    Fr h₀ L h' m ∧ News h₀ L h' (tl ++ news) ∧ ∀ q ∈ tl, s.heap.get? q.1 = none := by
  have hn : h₀.get? L = none := kts_self F
  have keep : ∀ b o, h₀.get? b = some o → h'.get? b = some o := fun b o e => F'.keep b o (T.other b o (FG.keep b o e) (by
    intro q
    rw [List.mem_singleton] at q
    rw [q, hn] at e
    cases e))
  obtain ⟨oL, es, ep, hL, hLd, hLk, hLf⟩ := FG.ns
  obtain ⟨sl, hs⟩ := T.up hL
  have fresh : ∀ q ∈ tl, s.heap.get? q.1 = none := by
    intro q hq
    cases e : s.heap.get? q.1 with
    | none => rfl
    | some o =>
      have h1 := (kN q (List.mem_append_left _ hq)).2.2
      have h2 := hg _ _ e fun hm => by
        obtain ⟨p, hp, e'⟩ := List.mem_map.mp hm
        exact ha q hq p hp e'
      obtain ⟨sl', hs'⟩ := T.up h2
      rw [hs'] at h1
      cases h1
  refine ⟨⟨⟨{ oL with slots := sl }, es, ep, F'.keep _ _ hs, hLd, hLk, hLf⟩, keep, F.above⟩, fun p hp => ?_, fresh⟩
  rcases List.mem_append.mp hp with hp | hp
  · have hp2 := kN p (List.mem_append_left _ hp)
    refine ⟨hp2.1, fun q => ?_, ?_⟩
    · have h2 := hp2.2.2
      rw [q, hs] at h2
      cases h2
    · cases e : h₀.get? p.1 with
      | none => rfl
      | some o =>
        obtain ⟨sl', hs'⟩ := T.up (FG.keep _ _ e)
        have h2 := hp2.2.2
        rw [hs'] at h2
        cases h2
  · refine ⟨?_, (N p hp).2⟩
    by_cases q : p.1 ∈ own.map (·.1)
    · obtain ⟨p', hp', e⟩ := List.mem_map.mp q
      have h1 := (N _ hp).1
      have h2 := (N _ (ho _ hp')).1
      rw [e, h1] at h2
      have : p' = p := Prod.ext e (Option.some.inj h2).symm
      rw [← this]
      exact (kN p' (List.mem_append_right _ hp')).1
    · exact F'.keep _ _ (T.other _ _ (hg _ _ (N p hp).1 q) (by
        intro z
        rw [List.mem_singleton] at z
        exact (N p hp).2.1 z))
end Mine
end

section
set_option maxHeartbeats 8000000
namespace Mine
local macro_rules | `(tactic| walk_at "none 0") => `(tactic| fail)
local macro_rules | `(tactic| walk_at "none 1") => `(tactic| fail)
local macro_rules | `(tactic| walk_at "none 2") => `(tactic| fail)
local macro_rules | `(tactic| walk_at "none 3") => `(tactic| fail)
local macro_rules | `(tactic| walk_at "none 4") => `(tactic| fail)
local macro_rules | `(tactic| walk_at "none 5") => `(tactic| fail)
local macro_rules | `(tactic| walk_at "none 6") => `(tactic| fail)
local macro_rules | `(tactic| walk_at "none 7") => `(tactic| fail)
local macro_rules | `(tactic| walk_at "none 8") => `(tactic| fail)
local macro_rules | `(tactic| walk_at "none 9") => `(tactic| fail)
theorem resetSeen2 : True := by
  k_with_none
  w_top off
  trivial
theorem fillSeen2 : PySem.Challenge.rw_dg5011_01 = PySem.Challenge.rw_dg5011_01 ∧ hd.heap_39 = hd.heap_39 := by
  k_fill
  exact ⟨rfl, rfl⟩
local macro_rules | `(tactic| walk_at "getAttr ref") => `(tactic| (k_here; k_dflt (
  (refine' hk_own ?k1 ?k2 ?k3 ?k4 ?k5 ?k6 ?k7 ?k8 ?k9 ?_; (case k1 => k_asm); (case k2 => k_asm); (case k3 => k_inst); (case k4 => k_is); (case k5 => k_is); (case k6 => k_is); (case k7 => k_is); (case k8 => k_get); (case k9 => k_handed); k_whole))))
abbrev sDict (w : World) (k1 k2 k3 : Tok) (u1 u2 : Value) (d : Addr) : List DictEntry :=
  [⟨PyData.keyHash w.params "talker", .str "talker" k1, u1⟩, ⟨PyData.keyHash w.params "sentence_type", .str "sentence_type" k2, u2⟩, ⟨PyData.keyHash w.params "data", .str "data" k3, .ref d⟩]
theorem get_codeC (w : World) (x dx d : Addr) (vs zs : List Value) (nn nd : Nat) (k1 k2 k3 : Tok) (u1 u2 : Value) (i : Int) (ti : Tok) (hz : (slicePick vs.toArray (some (i * 4)) (some (i * 4 + 4)) none).toList = zs) (hz4 : zs.length ≤ 4) (hlen : vs.length < 2 ^ 20) (hsz : vs.toArray.size ≤ sizeLine)
  (loose : List Str) (mean : ExcName → Option Value) (mg mb : Str → Option Value) (dp un : Nat) (gd : Option (List Code)) (cn : Str) (cs : Scope) (a : Addr) (ccd : Value) (cl : List (Str × Addr)) (outer : List Env) (A₀ : Around) (base h₀ : Heap) (L : Addr) (m : Str → Option Value) (news : List (Addr × Obj)) (s : Shared)
  (Q E : Value → Shared → Prop)
  (B : Below A₀ base outer h₀) (F : Fr h₀ L s.heap m) (X : (hd.heap_39 w.params).In h₀) (N : News h₀ L s.heap news)
  (T : Top hd.view_39 loose mean mg mb h₀) (hk : cs.kind = .function) (ho : ∀ p ∈ [(x, instObj 394 dx), (dx, dictOf (sDict w k1 k2 k3 u1 u2 d) nd), (d, listOf vs.toArray nn)], p ∈ news) (hdp : dp + 10 < recursionLimit) (hun : un + 100 < cLine)
  (hok : ∀ a b c e, zs = [a, b, c, e] → ∀ y dy h' tk', Fr h₀ L h' m → News h₀ L h' ([(y, tdObj dy [a, b, c, e]), (dy, emptyDict)] ++ news) → (∀ q ∈ [(y, tdObj dy [a, b, c, e]), (dy, emptyDict)], s.heap.get? q.1 = none) → Q (.ref y) { s with heap := h', toks := tk' })
  (herr : zs.length < 4 → ∀ e g h' tk', RaisedSN base g (envX cn cs L a ccd cl :: outer) e (.type "TypeError") [(x, instObj 394 dx), (dx, dictOf (sDict w k1 k2 k3 u1 u2 d) nd), (d, listOf vs.toArray nn)] h' → Fr h₀ L g m → g.UpToSlots h' → (∀ b o, s.heap.get? b = some o → b ∉ [x, dx, d] → g.get? b = some o) → E (.ref e) { s with heap := h', toks := tk' }) :
  codeC (model PySem.Challenge.pw_dg5011_01 w) (ktrTop dp un gd cn cs L a ccd cl outer) (.call (.ref 391) ⟨[.ref x, .int i ti], []⟩) (fun r s' => match r with | .ok (.ret v) => Q v s' | .ok _ => False | .error e => E e s') s := by
  have N1 : News h₀ L s.heap [(x, instObj 394 dx), (dx, dictOf (sDict w k1 k2 k3 u1 u2 d) nd), (d, listOf vs.toArray nn)] := fun p hp => N p (ho p hp)
  k_dflt (refine' code_rawC (own := [(x, instObj 394 dx), (dx, dictOf (sDict w k1 k2 k3 u1 u2 d) nd), (d, listOf vs.toArray nn)]) (binds := [(("self" : Str), .ref x), (("i" : Str), .int i ti)]) ?k1 ?k2 ?k3 ?k4 ?k5 ?kA ?kF ?kK ?k6 ?k7 ?k8 ?kB ?k9 ?_ ?c2 ?c3 ?c4 ?c5; (case kA => exact rfl); (case kF => exact rfl); (case kK => first | exact rfl | assumption); (case k1 => k_asm); (case k2 => k_asm); (case k3 => k_asm); (case k4 => k_asm); (case k5 => k_asm); (case k6 => k_is); (case k7 => k_is); (case k8 => ktr_room); (case kB => exact BindsTo.of_eq rfl); (case c5 => decide); (case k9 => exact locs rfl); (case c2 => exact rfl); (case c3 => exact rfl); (case c4 => exact rfl); k_whole)
  intro g L' h' hg' hL' FG' F' N' hlt' B' X' T' lv
  (try dsimp only)
  (try k_fold)
  refine wpC_execs_cons (wpC_Return (wpC_evalCall ?_))
  (try dsimp only)
  (try k_fold)
  k_steps
  refine wpC_callWith_star (keeps_K (K := hd.heap_39 w.params) (by k_is)) ?_
  (try dsimp only)
  (try k_fold)
  k_steps
  dsimp only at *
  rename News g L' _ (_ :: _ :: _ :: _ :: _) => kN
  refine star_seq (T := "list") (its := slicePick vs.toArray (some (i * 4)) (some (i * 4 + 4)) none) (n := 0) (o := listOf (slicePick vs.toArray (some (i * 4)) (some (i * 4 + 4)) none) 0) (by assumption) kN (List.Mem.head _) rfl rfl (Or.inl rfl) hz (by rw [← Array.length_toList, hz]; exact Nat.le_trans hz4 (by decide)) (fun h₃ F₃ N₃ => ⟨X'.keeps F₃.keep, ?_⟩)
  have N4 : News g L' h₃ [(x, instObj 394 dx), (dx, dictOf (sDict w k1 k2 k3 u1 u2 d) nd), (d, listOf vs.toArray nn)] := fun p hp => N₃ p (.tail _ hp)
  by_cases h4 : zs.length = 4
  · obtain ⟨a1, b1, c1, e1, rfl⟩ : ∃ a1 b1 c1 e1, zs = [a1, b1, c1, e1] := by
      rcases zs with _ | ⟨a1, _ | ⟨b1, _ | ⟨c1, _ | ⟨e1, _ | ⟨f1, r⟩⟩⟩⟩⟩ <;> simp at h4
      exact ⟨_, _, _, _, rfl⟩
    refine wpC_any (td_new w a1 b1 c1 e1 loose mean mg mb (dp + 1) (un + 3) gd _ _ _ _ [] (envX cn cs L a ccd cl :: outer) (ktrTop dp un gd cn cs L a ccd cl outer) base g L' _ [(x, instObj 394 dx), (dx, dictOf (sDict w k1 k2 k3 u1 u2 d) nd), (d, listOf vs.toArray nn)] _ _ _ B' F₃ X' N4 T' rfl (fun p hp => nomatch hp) (by omega) (by omega) ?_)
    intro r tl h₄ tk₄ F₄ N₄ fr₄ ⟨y, dy, hr, htl⟩
    subst hr htl
    refine lv _ _ (leaveK_ F₄ N₄ fun FF NN => ?_)
    refine hok _ _ _ _ rfl y dy _ _ FF (con_back N hg' F₄ NN ho) (con_fresh hg' N₄ fun q hq p hp e => ?_)
    have f1 := fr₄ q hq
    rw [← e, (N4 p hp).1] at f1
    cases f1
  · refine wpC_call (td_refuse ?_ F₃ X' ?_ rfl ?_)
    · rcases zs with _ | ⟨a1, _ | ⟨b1, _ | ⟨c1, _ | ⟨e1, r⟩⟩⟩⟩
      · exact .inl rfl
      · exact .inr (.inl ⟨_, rfl⟩)
      · exact .inr (.inr (.inl ⟨_, _, rfl⟩))
      · exact .inr (.inr (.inr ⟨_, _, _, rfl⟩))
      · simp only [List.length_cons] at h4 hz4; omega
    · show dp + 1 + 1 < recursionLimit
      omega
    · intro h₄ tk₄ e ne
      refine leave_newS B' ne F₃ N4 fun h₅ R1 R2 U => ?_
      exact herr (by omega) e g h₅ tk₄ R1 FG' U (by simpa using hg')
end Mine
end

section
set_option maxHeartbeats 8000000
namespace Mine
theorem resetRow : True := by
  k_with_none
  w_top off
  trivial
theorem fillW1 : PySem.Challenge.rw_dg5011_01 = PySem.Challenge.rw_dg5011_01 ∧ hd.heap_39 = hd.heap_39 := by
  k_fill
  exact ⟨rfl, rfl⟩

section
variable {prog : Program} {w : World} {A : Around} {E : Value → Shared → Prop} {s : Shared}
theorem r_item {value slice : PySem.Expr} {l : Addr} {vs : List Value} {k : Int} {u : Tok} {Q : Value → Shared → Prop} (hl : s.heap.IsList l vs.toArray) (h0 : 0 ≤ k) (hhi : k < (vs.length : Int)) (hn : vs.length < 2 ^ 62) (h : Q (vs.getD k.toNat .none) s)
    (hs : subscripted slice false (.ref l) (.int k u) = operate [.ref l, .int k u] (getItem (.ref l) (.int k u)) := by with_unfolding_all rfl) :
    wpAny (model prog w) A (subscriptTail value slice (.ref l) (.int k u)) Q E s := by
  have hk : k.toNat < vs.length := by omega
  refine item_litK hl h0 (by omega) (v := vs.getD k.toNat .none) ?_ h hs
  rw [List.getD_eq_getElem?_getD, List.getElem?_eq_getElem hk]; rfl
end
local macro_rules | `(tactic| walk_at "call builtin:len") => `(tactic| (k_here; (with_reducible show wpAny _ _ (call (Value.builtin "len") [Value.ref _]) _ _ _); (with_unfolding_all refine' len_list ?k1 ?k2 ?_; (case k1 => is_list); (case k2 => (simp only [List.size_toArray]; omega)); k_whole); (try simp only [List.size_toArray])))
local macro_rules | `(tactic| walk_at "subscriptTail") => `(tactic| (k_here; (with_reducible show wpAny _ _ (subscriptTail _ _ (Value.ref _) (Value.int _ _)) _ _ _); (with_unfolding_all refine' r_item ?k1 ?k2 ?k3 ?k4 ?_ ?k6; (case k1 => is_list); (case k2 => omega); (case k3 => omega); (case k4 => omega); (case k6 => with_unfolding_all rfl); k_whole)))

local macro_rules | `(tactic| walk_at "con_enter") => `(tactic| (refine' code_own ?k1 ?k2 ?k3 ?k4 ?k5 ?kA ?kF ?kK ?k6 ?k7 ?k8 ?kB ?k9 ?_ ?c2 ?c3 ?c4 ?c5; (case kA => exact rfl); (case kF => exact rfl); (case kK => assumption); (case k1 => k_asm); (case k2 => k_asm); (case k3 => k_asm); (case k4 => k_asm); (case k5 => k_asm); (case k6 => k_is); (case k7 => k_is); (case k8 => ktr_room); (case kB => exact BindsTo.of_eq rfl); (case c5 => decide); (case k9 => exact locs rfl); (case c2 => exact rfl); (case c3 => exact rfl); (case c4 => exact rfl); k_whole))
/-- what _law_row tells -/
def rowD (xs : List Str) (i : Int) : Dat :=
  let first : Int := if i < 0 then (xs.length : Int) + 4 * i else 4 * i
  if i = -1 then .str "refused" else if first < 0 ∨ (xs.length : Int) < first + 4 then .str "refused"
  else .list [.str (xs.getD first.toNat Str.empty), .str (xs.getD (first + 1).toNat Str.empty), .str (xs.getD (first + 2).toNat Str.empty), .str (xs.getD (first + 3).toNat Str.empty)]

theorem strs_getD : ∀ {vs : List Value} {xs : List Str}, StrsAre vs xs → ∀ k : Nat, k < xs.length → ∃ t, vs.getD k .none = .str (xs.getD k Str.empty) t
  | _, _, .nil, _, h => absurd h (Nat.not_lt_zero _)
  | _, _, .cons y t _, 0, _ => ⟨t, rfl⟩
  | _, _, .cons y t r, k + 1, h => strs_getD r k (Nat.lt_of_succ_lt_succ h)
theorem datIn_getD {news : List (Addr × Obj)} {vs : List Value} {xs : List Str} (hx : StrsAre vs xs) {k : Nat} (h : k < xs.length) : DatIn news (vs.getD k .none) (.str (xs.getD k Str.empty)) := by
  obtain ⟨t, e⟩ := strs_getD hx k h
  rw [e]; exact .str _ _
theorem row_refused {xs : List Str} {i : Int} {n : Nat} (hn : n = xs.length) (h : i = -1 ∨ (i < 0 ∧ (n : Int) + 4 * i < 0) ∨ (i < 0 ∧ (n : Int) < (n : Int) + 4 * i + 4) ∨ (¬ i < 0 ∧ 4 * i < 0) ∨ (¬ i < 0 ∧ (n : Int) < 4 * i + 4)) : rowD xs i = .str "refused" := by
  subst hn
  unfold rowD
  dsimp only
  by_cases h1 : i = -1
  · rw [if_pos h1]
  · rw [if_neg h1]
    by_cases h2 : i < 0
    · rw [if_pos h2, if_pos (by omega)]
    · rw [if_neg h2, if_pos (by omega)]
theorem row_told {xs : List Str} {i f : Int} {n : Nat} (hn : n = xs.length) (hf : (i < 0 ∧ f = (n : Int) + 4 * i) ∨ (¬ i < 0 ∧ f = 4 * i)) (h1 : i ≠ -1) (h0 : 0 ≤ f) (h2 : f + 4 ≤ n) {l : Addr} {news : List (Addr × Obj)} {c : Nat} {t1 t2 t3 t4 : Tok}
   (hm : (l, listOf #[.str (xs.getD f.toNat Str.empty) t1, .str (xs.getD (f + 1).toNat Str.empty) t2, .str (xs.getD (f + 2).toNat Str.empty) t3, .str (xs.getD (f + 3).toNat Str.empty) t4] c) ∈ news) : DatIn news (.ref l) (rowD xs i) := by
  subst hn
  have e : rowD xs i = .list [.str (xs.getD f.toNat Str.empty), .str (xs.getD (f + 1).toNat Str.empty), .str (xs.getD (f + 2).toNat Str.empty), .str (xs.getD (f + 3).toNat Str.empty)] := by
    unfold rowD
    dsimp only
    have ef : (if i < 0 then (xs.length : Int) + 4 * i else 4 * i) = f := by split <;> omega
    rw [ef, if_neg h1, if_neg (by omega)]
  rw [e]
  exact .list hm (.cons (.str _ _) (.cons (.str _ _) (.cons (.str _ _) (.cons (.str _ _) .nil))))

theorem row_spec (w : World) (row : Addr) (vs : List Value) (nn : Nat) (i : Int) (ti : Tok) (xs : List Str) (hx : StrsAre vs xs) (hlen : vs.length < 2 ^ 20) :
   Con w 1 8 (.ref 411) [.ref row, .int i ti] [(row, listOf vs.toArray nn)] (fun r tl => DatIn tl r (rowD xs i)) := by
  intro loose mean mg mb dp un gd cn cs a ccd cl outer A₀ base h₀ L m news s Q E B F X N T hk ho hdp hun hret
  have N1 : News h₀ L s.heap [(row, listOf vs.toArray nn)] := fun p hp => N p (ho p hp)
  have hxl : vs.length = xs.length := hx.length
  refine wpAny_call ?_
  k_dflt (walk_at "con_enter")
  intro g' L' h' hg' hL' FG' F' N' hlt' B' X' T'
  (try dsimp only)
  (try k_fold)
  k_steps
  all_goals try (
    refine hret _ [] _ _ (by assumption) (con_back (tl := []) N hg' (by assumption) (by assumption) ho) (fun _ h => nomatch h) ?_
    rw [row_refused hxl (by omega)]
    exact .str _ _)
  all_goals (
    refine hret _ [_] _ _ (by assumption) (con_back (tl := [_]) N hg' (by assumption) (by assumption) ho) (con_fresh (tl := [_]) hg' (by assumption) ?_) ?_
    · intro q hq p hp
      cases List.mem_singleton.mp hq
      cases List.mem_singleton.mp hp
      k_ne
    · refine row_told hxl ?_ ?_ ?_ ?_ (.head _) <;> omega)
end Mine
end

section
set_option maxHeartbeats 8000000
namespace Mine
local macro_rules | `(tactic| walk_at "none 0") => `(tactic| fail)
local macro_rules | `(tactic| walk_at "none 1") => `(tactic| fail)
local macro_rules | `(tactic| walk_at "none 2") => `(tactic| fail)
local macro_rules | `(tactic| walk_at "none 3") => `(tactic| fail)
theorem resetSeen3 : True := by
  k_with_none
  w_top off
  trivial
theorem fillSeen3 : PySem.Challenge.rw_dg5011_01 = PySem.Challenge.rw_dg5011_01 ∧ hd.heap_39 = hd.heap_39 := by
  k_fill
  exact ⟨rfl, rfl⟩
theorem Con.use {w : World} {d u : Nat} {f : Value} {args : List Value} {own : List (Addr × Obj)} {Out : Value → List (Addr × Obj) → Prop} {loose : List Str} {mean : ExcName → Option Value} {mg mb : Str → Option Value} {dp un : Nat} {gd : Option (List Code)} {cn : Str} {cs : Scope} {a : Addr} {ccd : Value} {cl : List (Str × Addr)} {outer : List Env} {A₀ : Around} {base h₀ : Heap} {L : Addr} {m : Str → Option Value} {news : List (Addr × Obj)} {s : Shared}
    {Q E : Value → Shared → Prop} (C : Con w d u f args own Out)
    (B : Below A₀ base outer h₀) (F : Fr h₀ L s.heap m) (X : (hd.heap_39 w.params).In h₀) (N : News h₀ L s.heap news) (T : Top hd.view_39 loose mean mg mb h₀) (hk : cs.kind = .function) (ho : ∀ p ∈ own, p ∈ news) (h1 : dp + d < recursionLimit) (h2 : un + u < cLine)
    (h : ∀ r tl h' tk', Fr h₀ L h' m → News h₀ L h' (tl ++ news) → (∀ q ∈ tl, s.heap.get? q.1 = none) → Out r tl → Q r { s with heap := h', toks := tk' }) :
    wpAny (model PySem.Challenge.pw_dg5011_01 w) (ktrTop dp un gd cn cs L a ccd cl outer) (call f args) Q E s := C _ _ _ _ _ _ _ _ _ _ _ _ _ _ _ _ _ _ _ _ _ _ B F X N T hk ho h1 h2 h
local macro_rules | `(tactic| walk_at "getMethod ref") => `(tactic| (k_here; k_dflt (refine' hk_method ?k1 ?k2 ?k3 ?k4 ?k5 ?_; (case k1 => k_asm); (case k2 => k_asm); (case k3 => k_inst); (case k4 => k_is); (case k5 => k_is); k_whole)))
local macro_rules | `(tactic| walk_at "getAttr ref") => `(tactic| (k_here; k_dflt (
  (refine' hk_bound ?k1 ?k2 ?k3 ?k4 ?k5 ?k6 ?k7 ?k8 ?k9 ?k10 ?k11 ?k12 ?k13 ?_; (case k4 => k_inst); (case k1 => k_asm); (case k2 => k_asm); (case k3 => k_asm); (case k5 => k_is); (case k6 => k_is); (case k7 => k_is); (case k8 => k_is); (case k9 => k_is); (case k10 => k_is); (case k11 => k_is); (case k12 => decide +kernel); (case k13 => k_get); k_whole; intro q' h' F' N' l1; (try k_lt l1); (try k_sweep)))))
theorem td_isi {prog : Program} {w : World} {A : Around} {E : Value → Shared → Prop} {s : Shared} {y C L : Addr} {o : Obj} {h₀ : Heap} {news : List (Addr × Obj)} {Q : Value → Shared → Prop} (N : News h₀ L s.heap news) (hm : (y, o) ∈ news) (hc : o.cls = .ref C) (h : Q (.bool true) s) :
    wpAny (model prog w) A (call (.builtin "isinstance") [.ref y, .ref C]) Q E s := by
  refine call_isinstance (S := fun _ R s => s.heap.get? y = some o ∧ R (.ok (.ret (.bool true))) s) (fun P' W' A' R' s' hs => isinstance_outer ?_ (by intro q; cases q)) ⟨(N _ hm).1, h⟩
  unfold Builtin.«isinstance.nested»
  have L0 : Looks (model P' W') s'.heap (typeOf (.ref y)) (.ref C) := hc ▸ (Looks.ld hs.1).andThen .now
  refine wpAny_bind (L0.here ?_)
  rw [if_pos (beq_self_eq_true _)]
  exact wpAny_bind (wpAny_rule (wpAny_pure hs.2))
theorem fnd0 (P : Params) : findObj (hd.heap_39 P) 361 (some emptyDict) "type" = some (.bind (.ref 266) (.ref 347)) := findTd (by k_is) (by k_is) (by k_is)
theorem fnd1 (P : Params) : findObj (hd.heap_39 P) 361 (some emptyDict) "value" = some (.bind (.ref 266) (.ref 350)) := findTd (by k_is) (by k_is) (by k_is)
theorem fnd2 (P : Params) : findObj (hd.heap_39 P) 361 (some emptyDict) "units" = some (.bind (.ref 266) (.ref 353)) := findTd (by k_is) (by k_is) (by k_is)
theorem fnd3 (P : Params) : findObj (hd.heap_39 P) 361 (some emptyDict) "id" = some (.bind (.ref 266) (.ref 356)) := findTd (by k_is) (by k_is) (by k_is)
local macro_rules | `(tactic| walk_at "getAttr ref") => `(tactic| (k_here; k_dflt (
  (refine' td_attr ?F ?X ?N ?a ?b ?f ?_; (case F => k_asm); (case X => k_asm); (case f => first | exact fnd0 _ | exact fnd1 _ | exact fnd2 _ | exact fnd3 _); (case N => k_asm); (case a => k_mem); (case b => k_mem); k_whole))))
local macro_rules | `(tactic| walk_at "call ref") => `(tactic| (k_here; (with_reducible show wpAny _ _ (call (Value.ref 266) _) _ _ _); k_dflt (
  (first | refine' Con.use (td_get0 _ _ _ _ _ _ _) ?B ?F ?X ?N ?T ?hk ?ho ?d ?u ?_ | refine' Con.use (td_get1 _ _ _ _ _ _ _) ?B ?F ?X ?N ?T ?hk ?ho ?d ?u ?_ | refine' Con.use (td_get2 _ _ _ _ _ _ _) ?B ?F ?X ?N ?T ?hk ?ho ?d ?u ?_ | refine' Con.use (td_get3 _ _ _ _ _ _ _) ?B ?F ?X ?N ?T ?hk ?ho ?d ?u ?_);
  (case B => k_asm); (case F => k_asm); (case X => k_asm); (case N => k_asm); (case T => k_asm); (case hk => rfl); (case ho => exact List.forall_mem_cons.2 ⟨by k_mem, List.forall_mem_cons.2 ⟨by k_mem, fun _ h => nomatch h⟩⟩); (case d => first | omega | ktr_room | (simp only [Around.deeper, Around.in1]; omega)); (case u => first | omega | (simp only [Around.deeper, Around.in1]; omega) | (trace_state; fail "units")); k_whole; intro r tl h' tk' F' N' fr hr; obtain ⟨hr1, hr2⟩ := hr; subst hr1 hr2; clear fr; rw [List.nil_append] at N'; refine handed_on rfl ?_; (try dsimp only); (try k_sweep))))
local macro_rules | `(tactic| walk_at "call builtin:isinstance") => `(tactic| (k_here; (with_reducible show wpAny _ _ (call _ [Value.ref _, Value.ref _]) _ _ _); k_dflt (refine' td_isi ?N ?m ?c ?_; (case N => k_asm); (case m => k_mem); (case c => exact rfl); k_whole)))
theorem seen_spec (w : World) (x dx d : Addr) (vs zs : List Value) (nn nd : Nat) (k1 k2 k3 : Tok) (u1 u2 : Value) (i : Int) (ti : Tok) (hz : (slicePick vs.toArray (some (i * 4)) (some (i * 4 + 4)) none).toList = zs) (hz4 : zs.length ≤ 4) (hlen : vs.length < 2 ^ 20) (hsz : vs.toArray.size ≤ sizeLine) (ys : List Str) (hzs : StrsAre zs ys) (Out : Value → List (Addr × Obj) → Prop)
   (o1 : zs.length < 4 → ∀ t, Out (.str "refused" t) [])
   (o2 : ∀ a b c e, zs = [a, b, c, e] → ∀ l n tl, (l, listOf #[a, b, c, e] n) ∈ tl → Out (.ref l) tl) :
   ConS w 20 200 (.ref 418) [.ref x, .int i ti] [(x, instObj 394 dx), (dx, dictOf (sDict w k1 k2 k3 u1 u2 d) nd), (d, listOf vs.toArray nn)] Out := by
  intro loose mean mg mb dp un gd cn cs a ccd cl A₀ h₀ L m news s Q E B F X N T hk ho hdp hun hret
  have N1 : News h₀ L s.heap [(x, instObj 394 dx), (dx, dictOf (sDict w k1 k2 k3 u1 u2 d) nd), (d, listOf vs.toArray nn)] := fun p hp => N p (ho p hp)
  refine wpC_call ?_
  k_dflt (refine' code_rawC (own := [(x, instObj 394 dx), (dx, dictOf (sDict w k1 k2 k3 u1 u2 d) nd), (d, listOf vs.toArray nn)]) (binds := [(("s" : Str), .ref x), (("i" : Str), .int i ti)]) ?k1 ?k2 ?k3 ?k4 ?k5 ?kA ?kF ?kK ?k6 ?k7 ?k8 ?kB ?k9 ?_ ?c2 ?c3 ?c4 ?c5; (case kA => exact rfl); (case kF => exact rfl); (case kK => first | exact rfl | assumption); (case k1 => k_asm); (case k2 => k_asm); (case k3 => k_asm); (case k4 => k_asm); (case k5 => k_asm); (case k6 => k_is); (case k7 => k_is); (case k8 => ktr_room); (case kB => exact BindsTo.of_eq rfl); (case c5 => decide); (case k9 => exact locs rfl); (case c2 => exact rfl); (case c3 => exact rfl); (case c4 => exact rfl); k_whole)
  intro g L' h' hg' hL' FG' F' N' hlt' B' X' T' lv
  (try dsimp only)
  (try k_fold)
  refine wpC_execs_cons (wpC_Try (wpC_execs_cons (wpC_Assign_Name (wpC_evalMethod ?_))))
  (try dsimp only)
  (try k_fold)
  k_steps
  (try dsimp only at *)
  rename News g L' _ (_ :: _ :: _ :: _ :: _) => kN
  refine wpC_callWith (P := MethP (hd.heap_39 w.params) _ 391 (.ref x)) rfl (keeps_M (by k_is)) (wpC_evalArgs (wpC_spliced_cons (wpC_any ?_)))
  rw [if_neg Bool.false_ne_true]
  (try dsimp only)
  (try k_fold)
  k_steps
  (try dsimp only at *)
  refine wpC_spliced_nil ?_
  refine ⟨methP kN (List.Mem.head _) (X'.keeps (Fr.keep (by assumption))), wpC_call (codeC_method (kN _ (List.Mem.head _)).1 ?_)⟩
  refine get_codeC w x dx d vs zs nn nd k1 k2 k3 u1 u2 i ti hz hz4 hlen hsz loose mean mg mb (dp + 1) (un + 3) gd _ _ _ _ _ (envX cn cs L a ccd cl :: []) (ktrTop dp un gd cn cs L a ccd cl []) h₀ g L' _ _ _ _ _ B' (by assumption) X' kN T' rfl (fun p hp => .tail _ hp) (by omega) (by omega) ?_ ?_
  · intro a1 b1 c1 e1 hzz y dy h₃ tk₃ F₃ N₃ fr₃
    subst hzz
    rcases hzs with _ | ⟨y1, t1, hzs⟩
    rcases hzs with _ | ⟨y2, t2, hzs⟩
    rcases hzs with _ | ⟨y3, t3, hzs⟩
    rcases hzs with _ | ⟨y4, t4, hzs⟩
    cases hzs
    rw [List.cons_append, List.cons_append, List.nil_append] at N₃
    clear kN
    k_steps
    refine wpC_execs_nil (wpC_any ?_)
    (try dsimp only)
    (try k_fold)
    k_steps
    rename_i l₅ h₅ F₅ N₅ l₅1
    obtain ⟨i1, i2, i3, i4, i5, i6⟩ := l₅1
    show Q (.ref l₅) _
    have N₆ : News g L' h₅ ([(l₅, listOf #[Value.str y1 t1, Value.str y2 t2, Value.str y3 t3, Value.str y4 t4] 0)] ++ [(x, instObj 394 dx), (dx, dictOf (sDict w k1 k2 k3 u1 u2 d) nd), (d, listOf vs.toArray nn)]) := by
      intro p hp
      rcases List.mem_append.mp hp with hp | hp
      · cases List.mem_singleton.mp hp
        exact N₅ _ (List.Mem.head _)
      · exact N₅ p (.tail _ (.tail _ (.tail _ (.tail _ hp))))
    obtain ⟨c1, c2, c3⟩ := conS_back F N hg' FG' KtsTurn.refl F₅ N₆ ho (by
      intro q hq p hp
      cases List.mem_singleton.mp hq
      rcases hp with _ | ⟨_, _ | ⟨_, _ | ⟨_, hp⟩⟩⟩
      · exact Nat.ne_of_lt i4
      · exact Nat.ne_of_lt i5
      · exact Nat.ne_of_lt i6
      · cases hp)
    exact hret _ _ _ _ c1 c2 c3 (o2 _ _ _ _ rfl _ _ _ (List.Mem.head _))
  · intro hz3 e g₂ h₃ tk₃ R₃ F₃ U₃ hg₃
    have D : KtsDicts [L] g := fun b hb => by
      cases List.mem_singleton.mp hb
      obtain ⟨oL, es, ep, hL, hLd, _⟩ := FG'.ns
      exact ⟨oL, es, _, hL, hLd⟩
    refine caught_SN0 (T' := "TypeError") (KF := hd.heap_39 w.params) (g₀ := g) R₃ F₃ B' U₃ X T D KtsTurn.refl ?ex PyProof.Rows.Boot.«TypeError» ?hn PySem.F.isExc_TypeError PySem.F.notTuple_TypeError ?hs ?_
    case ex => k_is
    case hn => decide
    case hs => kts_sub
    intro h₅ g₅ T₅ F₅ N₅ B₅ X₅ P₅ D₅
    have N₆ : News g₅ L' h₅ ([] ++ [(x, instObj 394 dx), (dx, dictOf (sDict w k1 k2 k3 u1 u2 d) nd), (d, listOf vs.toArray nn)]) := N₅
    obtain ⟨c1, c2, c3⟩ := conS_back F N hg' FG' T₅ F₅ N₆ ho (fun q hq => nomatch hq)
    (try dsimp only)
    k_steps
    show Q (.str "refused" _) _
    exact hret _ _ _ _ c1 c2 c3 (o1 hz3 _)
end Mine
end

section
set_option maxHeartbeats 8000000
namespace Mine
local macro_rules | `(tactic| walk_at "none 0") => `(tactic| fail)
local macro_rules | `(tactic| walk_at "none 1") => `(tactic| fail)
local macro_rules | `(tactic| walk_at "none 2") => `(tactic| fail)
local macro_rules | `(tactic| walk_at "none 3") => `(tactic| fail)
local macro_rules | `(tactic| walk_at "none 4") => `(tactic| fail)
local macro_rules | `(tactic| walk_at "none 5") => `(tactic| fail)
local macro_rules | `(tactic| walk_at "none 6") => `(tactic| fail)
local macro_rules | `(tactic| walk_at "none 7") => `(tactic| fail)
local macro_rules | `(tactic| walk_at "none 8") => `(tactic| fail)
local macro_rules | `(tactic| walk_at "none 9") => `(tactic| fail)
theorem resetSum : True := by
  k_with_none
  w_top off
  trivial
theorem fillSum : PySem.Challenge.rw_dg5011_01 = PySem.Challenge.rw_dg5011_01 ∧ hd.heap_39 = hd.heap_39 := by
  k_fill
  exact ⟨rfl, rfl⟩
theorem xor_small : ∀ a b : Fin 128, a.val + b.val - 2 * (a.val &&& b.val) < 128 := by decide +kernel
theorem and_le : ∀ a b : Fin 128, 2 * (a.val &&& b.val) ≤ a.val + b.val := by decide +kernel
theorem xor_in {t n : Int} (h0 : 0 ≤ t) (h1 : t < 128) (h2 : 0 ≤ n) (h3 : n < 128) : 0 ≤ Builtin.bitXor t n ∧ Builtin.bitXor t n < 128 := by
  rw [PyProof.Rows.bitXor_and, bitAnd_pp h0 h2]
  have a := xor_small ⟨t.toNat, by omega⟩ ⟨n.toNat, by omega⟩
  have b := and_le ⟨t.toNat, by omega⟩ ⟨n.toNat, by omega⟩
  dsimp only at a b
  omega
/-- the exclusive or of a text's codes -/
def xorI (pre : List Int) : Int := pre.foldl Builtin.bitXor 0
def Asc (x : Str) : Prop := ∀ c ∈ KStt.codes x, 0 ≤ c ∧ c < 128
theorem sumT {x : Str} {pre post : List Int} {n t : Int} (ha : Asc x) (e : KStt.codes x = pre ++ n :: post) (h : 0 ≤ t ∧ t < 128 ∧ t = xorI pre) : 0 ≤ Builtin.bitXor t n ∧ Builtin.bitXor t n < 128 ∧ Builtin.bitXor t n = xorI (pre ++ [n]) := by
  have hn := ha n (by rw [e]; simp)
  obtain ⟨h0, h1, h2⟩ := h
  obtain ⟨b0, b1⟩ := xor_in h0 h1 hn.1 hn.2
  refine ⟨b0, b1, ?_⟩
  unfold xorI at h2 ⊢
  rw [List.foldl_append, ← h2]
  rfl
def hexOf (t : Int) : Str := Txt.item "0123456789ABCDEF" (t.fdiv 16) ++ Txt.item "0123456789ABCDEF" (t.fmod 16)
theorem sum_spec (w : World) (x : Str) (tx : Tok) (ha : Asc x) : Con w 4 40 (.ref 404) [.str x tx] [] (fun r tl => 0 ≤ xorI (KStt.codes x) ∧ xorI (KStt.codes x) < 128 ∧ tl = [] ∧ ∃ t, r = .str (hexOf (xorI (KStt.codes x))) t) := by
  intro loose mean mg mb dp un gd cn cs ca ccd cl outer A₀ base h₀ L m news s Q E B F X N T hk ho hdp hun hret
  have N1 : News h₀ L s.heap [] := fun p hp => nomatch hp
  refine wpAny_call ?_
  k_dflt (refine' code_own (own := []) (binds := [(("text" : Str), .str x tx)]) ?k1 ?k2 ?k3 ?k4 ?k5 ?kA ?kF ?kK ?k6 ?k7 ?k8 ?kB ?k9 ?_ ?c2 ?c3 ?c4 ?c5; (case kA => exact rfl); (case kF => exact rfl); (case kK => assumption); (case k1 => k_asm); (case k2 => k_asm); (case k3 => k_asm); (case k4 => k_asm); (case k5 => k_asm); (case k6 => k_is); (case k7 => k_is); (case k8 => ktr_room); (case kB => exact BindsTo.of_eq rfl); (case c5 => decide); (case k9 => exact locs rfl); (case c2 => exact rfl); (case c3 => exact rfl); (case c4 => exact rfl); k_whole)
  intro g' L' h' hg' hL' FG' F' N' hlt' B' X' T'
  (try dsimp only)
  (try k_fold)
  k_with "state" => (first | exact ⟨by decide, by decide, rfl⟩ | exact sumT (by assumption) (by assumption) ⟨by assumption, by assumption, by assumption⟩ | exact sumT (by assumption) (by assumption) (by assumption))
  k_with "pyIter str" => k_state (fun pre t => 0 ≤ t ∧ t < 128 ∧ t = xorI pre) "total"
  k_steps
  rename _ = xorI _ => hq
  refine hret _ [] _ _ (by assumption) (con_back (tl := []) N hg' (by assumption) (by assumption) ho) (fun _ h => nomatch h) ?_
  rw [← hq]
  exact ⟨by assumption, by assumption, rfl, _, rfl⟩
end Mine
end

section
set_option maxHeartbeats 8000000
namespace Mine
theorem resetWord : True := by
  k_with_none
  w_top off
  trivial
theorem fillWord : PySem.Challenge.rw_dg5011_01 = PySem.Challenge.rw_dg5011_01 ∧ hd.heap_39 = hd.heap_39 := by
  k_fill
  exact ⟨rfl, rfl⟩
section
variable {prog : Program} {w : World} {A : Around} {E : Value → Shared → Prop} {s : Shared} {value slice : Expr} {x y : Str} {t : Tok} {h₀ : Heap} {L : Addr} {m : Str → Option Value} {news : List (Addr × Obj)} {Q : Value → Shared → Prop} {i j : Int} {ui uj : Tok}
theorem sl_ns (hF : Fr h₀ L s.heap m) (hN : News h₀ L s.heap news) (e : Txt.slice x none (some j) = y) (hsz : x.length ≤ sizeLine) (h : ∀ h' t' k, Fr h₀ L h' m → News h₀ L h' news → Q (.str y t') { s with heap := h', toks := k })
    (hs : subscripted slice false (.str x t) (.ref s.heap.objs.size) = operate [.ref s.heap.objs.size, .str x t] (getItem (.str x t) (.ref s.heap.objs.size))) (ht : ∀ r, letTemporaryGo value (.str x t) r = pure ()) :
    wpAny (model prog w) A (subscriptTail value slice (.str x t) (.ref s.heap.objs.size)) Q E { s with heap := s.heap.push { cls := .type "slice", data := .fields #[.none, .int j uj, .none] } } :=
  slice_strN_ns_len hF hN (fun h' t' k a b _ => by rw [e]; exact h h' t' k a b) hs ht hsz
theorem sl_sn (hF : Fr h₀ L s.heap m) (hN : News h₀ L s.heap news) (e : Txt.slice x (some i) none = y) (hsz : x.length ≤ sizeLine) (h : ∀ h' t' k, Fr h₀ L h' m → News h₀ L h' news → Q (.str y t') { s with heap := h', toks := k })
    (hs : subscripted slice false (.str x t) (.ref s.heap.objs.size) = operate [.ref s.heap.objs.size, .str x t] (getItem (.str x t) (.ref s.heap.objs.size))) (ht : ∀ r, letTemporaryGo value (.str x t) r = pure ()) :
    wpAny (model prog w) A (subscriptTail value slice (.str x t) (.ref s.heap.objs.size)) Q E { s with heap := s.heap.push { cls := .type "slice", data := .fields #[.int i ui, .none, .none] } } :=
  slice_strN_sn_len hF hN (fun h' t' k a b _ => by rw [e]; exact h h' t' k a b) hs ht hsz
theorem sl_ss (hF : Fr h₀ L s.heap m) (hN : News h₀ L s.heap news) (e : Txt.slice x (some i) (some j) = y) (hsz : x.length ≤ sizeLine) (h : ∀ h' t' k, Fr h₀ L h' m → News h₀ L h' news → Q (.str y t') { s with heap := h', toks := k })
    (hs : subscripted slice false (.str x t) (.ref s.heap.objs.size) = operate [.ref s.heap.objs.size, .str x t] (getItem (.str x t) (.ref s.heap.objs.size))) (ht : ∀ r, letTemporaryGo value (.str x t) r = pure ()) :
    wpAny (model prog w) A (subscriptTail value slice (.str x t) (.ref s.heap.objs.size)) Q E { s with heap := s.heap.push { cls := .type "slice", data := .fields #[.int i ui, .int j uj, .none] } } :=
  slice_strN_ss_len hF hN (fun h' t' k a b _ => by rw [e]; exact h h' t' k a b) hs ht hsz
end
local macro_rules | `(tactic| walk_at "call builtin:str.replace") => `(tactic| (k_here; k_dflt (refine' SC.replace ?a ?b ?c ?d ?e ?_; (case a => exact Nat.succ_ne_zero _); (case b => exact Nat.succ_ne_zero _); (case c => exact Nat.ne_of_lt (Nat.lt_succ_self _)); (case d => decide +kernel); (case e => decide +kernel)); intro _ _; (try dsimp only)))
theorem rep4 : Txt.isalnum (Txt.replace "IIXD" "_" "a") = true := by decide +kernel
theorem rep5 : Txt.isalnum (Txt.replace "IIXDR" "_" "a") = true := by decide +kernel
local macro_rules | `(tactic| walk_at "call builtin:str.isalnum") => `(tactic| (k_here; (refine KXw.isalnum (by first | exact rep4 | exact rep5) ?_)))
theorem word4 (w : World) (t u : Tok) : Con w 4 40 (.ref 98) [.str "IIXD" t, .int 4 u] [] (fun r tl => r = .bool true ∧ tl = []) := by
  intro loose mean mg mb dp un gd cn cs ca ccd cl outer A₀ base h₀ L m news s Q E B F X N T hk ho hdp hun hret
  have N1 : News h₀ L s.heap [] := fun p hp => nomatch hp
  refine wpAny_call ?_
  k_dflt (refine' code_own (own := []) (binds := [(("s" : Str), .str "IIXD" t), (("size" : Str), .int 4 u)]) ?k1 ?k2 ?k3 ?k4 ?k5 ?kA ?kF ?kK ?k6 ?k7 ?k8 ?kB ?k9 ?_ ?c2 ?c3 ?c4 ?c5; (case kA => exact rfl); (case kF => exact rfl); (case kK => assumption); (case k1 => k_asm); (case k2 => k_asm); (case k3 => k_asm); (case k4 => k_asm); (case k5 => k_asm); (case k6 => k_is); (case k7 => k_is); (case k8 => ktr_room); (case kB => first | exact BindsTo.of_eq rfl | exact binds_K (by k_in) rfl (by k_is) rfl rfl rfl); (case c5 => decide); (case k9 => exact locs rfl); (case c2 => exact rfl); (case c3 => exact rfl); (case c4 => exact rfl); k_whole)
  intro g' L' h' hg' hL' FG' F' N' hlt' B' X' T'
  (try dsimp only)
  (try k_fold)
  k_steps
  exact hret _ [] _ _ (by assumption) (con_back (tl := []) N hg' (by assumption) (by assumption) ho) (by intro q h; cases h) ⟨rfl, rfl⟩
theorem word5 (w : World) (t u : Tok) : Con w 4 40 (.ref 98) [.str "IIXDR" t, .int 5 u] [] (fun r tl => r = .bool true ∧ tl = []) := by
  intro loose mean mg mb dp un gd cn cs ca ccd cl outer A₀ base h₀ L m news s Q E B F X N T hk ho hdp hun hret
  have N1 : News h₀ L s.heap [] := fun p hp => nomatch hp
  refine wpAny_call ?_
  k_dflt (refine' code_own (own := []) (binds := [(("s" : Str), .str "IIXDR" t), (("size" : Str), .int 5 u)]) ?k1 ?k2 ?k3 ?k4 ?k5 ?kA ?kF ?kK ?k6 ?k7 ?k8 ?kB ?k9 ?_ ?c2 ?c3 ?c4 ?c5; (case kA => exact rfl); (case kF => exact rfl); (case kK => assumption); (case k1 => k_asm); (case k2 => k_asm); (case k3 => k_asm); (case k4 => k_asm); (case k5 => k_asm); (case k6 => k_is); (case k7 => k_is); (case k8 => ktr_room); (case kB => first | exact BindsTo.of_eq rfl | exact binds_K (by k_in) rfl (by k_is) rfl rfl rfl); (case c5 => decide); (case k9 => exact locs rfl); (case c2 => exact rfl); (case c3 => exact rfl); (case c4 => exact rfl); k_whole)
  intro g' L' h' hg' hL' FG' F' N' hlt' B' X' T'
  (try dsimp only)
  (try k_fold)
  k_steps
  exact hret _ [] _ _ (by assumption) (con_back (tl := []) N hg' (by assumption) (by assumption) ho) (by intro q h; cases h) ⟨rfl, rfl⟩
end Mine
end

section
set_option maxHeartbeats 4000000
namespace Mine
theorem resetHex : True := by
  k_with_none
  w_top off
  trivial
theorem hexRead : ((List.range 128).map fun t => (int_private% "readNumeral") 0 16 ((hexOf (t : Nat)).cps.toList.takeWhile (· != 0))) = (List.range 128).map fun t => (int_private% "Numeral.value") ((t : Nat) : Int) := by kernel_rfl
theorem hexText : ∀ t : Fin 128, numTextOf (hexOf (t.val : Nat)) = (hexOf (t.val : Nat)).cps.toList := by decide +kernel
theorem hexLens : ∀ t : Fin 128, (hexOf (t.val : Nat)).length = 2 ∧ (((hexOf (t.val : Nat)).cps.toList.takeWhile (· != 0)).length == (hexOf (t.val : Nat)).cps.toList.length) = true := by decide +kernel
theorem hexRead1 (t : Fin 128) : (int_private% "readNumeral") 0 16 ((hexOf (t.val : Nat)).cps.toList.takeWhile (· != 0)) = (int_private% "Numeral.value") ((t.val : Nat) : Int) := by
  have h := congrArg (fun l => l[t.val]?) hexRead
  simp only [List.getElem?_map, List.getElem?_range t.isLt, Option.map_some, Option.some.injEq] at h
  exact h
theorem wp_text16 {M : Model} {A : Around} {E : Value → Shared → Prop} {s : Shared} {Q : Value → Shared → Prop} {v : Value} {text : List Nat} {n : Int}
    (hs : (text.takeWhile (· != 0)).length ≤ 640) (hr : (int_private% "readNumeral") 0 16 (text.takeWhile (· != 0)) = (int_private% "Numeral.value") n)
    (ha : ((text.takeWhile (· != 0)).length == text.length) = true) (h : Q (.int n s.toks) { s with toks := s.toks + 1 }) :
    wpAny M A ((int_private% "intFromText") v text 16) Q E s := by
  obtain ⟨hp, g, d, tk, os⟩ := s
  repeat (any_goals (first
    | assumption
    | (with_reducible refine wpAny_ite_true (decide_eq_true hs) ?_)
    | (with_reducible refine wpAny_ite_true (decide_eq_true ha) ?_)
    | wp_step))
  all_goals (try rw [hr])
  all_goals (try dsimp only)
  repeat (any_goals (first
    | assumption
    | (with_reducible refine wpAny_ite_true (decide_eq_true hs) ?_)
    | (with_reducible refine wpAny_ite_true (decide_eq_true ha) ?_)
    | wp_step))
theorem gives_hex {x : Str} {u v : Tok} {n : Int} (hs : ((numTextOf x).takeWhile (· != 0)).length ≤ 640) (hr : (int_private% "readNumeral") 0 16 ((numTextOf x).takeWhile (· != 0)) = (int_private% "Numeral.value") n)
    (ha : (((numTextOf x).takeWhile (· != 0)).length == (numTextOf x).length) = true) : Gives (Builtin.«int.__new__» ⟨[.type "int", .str x u, .int 16 v], []⟩) (.int n) :=
  .of_wp fun M A E s Q h => by
    obtain ⟨hp, g, d, tk, os⟩ := s
    have f1 := F.conv_sub_int
    have f2 := F.madeHere_int
    have f6 : typeOf (.str x u) = pure (.type "str") := rfl
    have hk : (((numTextOf x).takeWhile (· != 0)).length ≤ 640) ∧ (int_private% "readNumeral") 0 16 ((numTextOf x).takeWhile (· != 0)) = (int_private% "Numeral.value") n ∧ (((numTextOf x).takeWhile (· != 0)).length == (numTextOf x).length) = true := ⟨hs, hr, ha⟩
    clear hs hr ha
    repeat (any_goals (first
      | assumption
      | ((with_reducible show wpAny _ _ ((int_private% "intFromText") _ _ _) _ _ _); refine wp_text16 hk.1 hk.2.1 hk.2.2 ?_)
      | wp_step))

    all_goals first | exact ⟨_, rfl, h⟩ | skip
theorem typeCall_int_2 (a b : Value) : checkTypeCall "int" ⟨[a, b], []⟩ = pure () := by kernel_rfl
theorem newCall_int_2 (a b : Value) : checkBuiltinCall "int.__new__" ⟨[.type "int", a, b], []⟩ = pure () := by kernel_rfl
theorem initOk_3 (o a b : Value) : argsOk "object.__init__" ⟨[o, a, b], []⟩ := by unfold argsOk; kernel_rfl
theorem call_hex {prog : Program} {w : World} {A : Around} {E : Value → Shared → Prop} {s : Shared} {Q : Value → Shared → Prop} {u v : Tok} {x : Str} {n : Int} (h0 : 0 ≤ n) (h1 : n < 128) (e : x = hexOf n) (h : Q (.int n s.toks) { s with toks := s.toks + 1 }) :
    wpAny (model prog w) A (call (.type "int") [.str x u, .int 16 v]) Q E s := by
  obtain ⟨t, rfl⟩ : ∃ t : Fin 128, n = ((t.val : Nat) : Int) := ⟨⟨n.toNat, by omega⟩, by dsimp only; omega⟩
  subst e
  have a := hexText t
  have b := hexLens t
  refine callType_new F.called_int F.newNe_int (typeCall_int_2 _ _) (newCall_int_2 _ _) (fun obj => initOk_3 obj _ _) F.entry_int_new (gives_hex (n := ((t.val : Nat) : Int)) ?_ ?_ ?_).meets (show (Made.int _).post _ s from ⟨rfl, h⟩)
  · rw [a]
    have := b.2
    rw [beq_iff_eq] at this
    rw [this]
    have := b.1
    show (hexOf _).cps.toList.length ≤ 640
    rw [Array.length_toList]
    show (hexOf _).length ≤ 640
    omega
  · rw [a]; exact hexRead1 t
  · rw [a]; exact b.2
end Mine
end

section
set_option maxHeartbeats 4000000
namespace Mine
theorem resetMapO : True := by
  k_with_none
  w_top off
  trivial
theorem slot_map_init : Slot "map" "__init__" "object.__init__" :=
  .of (owner := "object") (n := "__init__") (by rw [typeLookup_type, builtinLookup_eq_fast]; kernel_rfl) (by decide +kernel) (by decide +kernel) (by decide +kernel)
    (by first | exact .inl (by decide +kernel) | exact .inr (by decide +kernel)) (by rw [isSubtype_type]; kernel_rfl)
theorem slot_map_next : Slot "map" "__next__" "map.__next__" :=
  .of (owner := "map") (n := "__next__") (by rw [typeLookup_type, builtinLookup_eq_fast]; kernel_rfl) (by decide +kernel) (by decide +kernel) (by decide +kernel)
    (by first | exact .inl (by decide +kernel) | exact .inr (by decide +kernel)) (by rw [isSubtype_type]; kernel_rfl)
theorem entry_map_next : entryFor table "map.__next__" = some Builtin.«map.__next__» := entryFor_of_tree (by kernel_rfl)
theorem args_map_next_1 (a : Value) : argsOk "map.__next__" ⟨[a], []⟩ := by unfold argsOk; kernel_rfl
theorem slot_map_iter : Slot "map" "__iter__" "map.__iter__" :=
  .of (owner := "map") (n := "__iter__") (by rw [typeLookup_type, builtinLookup_eq_fast]; kernel_rfl) (by decide +kernel) (by decide +kernel) (by decide +kernel)
    (by first | exact .inl (by decide +kernel) | exact .inr (by decide +kernel)) (by rw [isSubtype_type]; kernel_rfl)
theorem args_map_iter_1 (a : Value) : argsOk "map.__iter__" ⟨[a], []⟩ := by unfold argsOk; kernel_rfl
theorem entry_map_iter : entryFor table "map.__iter__" = some Builtin.«dict_keyiterator.__iter__» :=
  entryFor_alias (id' := "dict_keyiterator.__iter__") (by kernel_rfl) (by first | rfl | decide +kernel | (unfold String.splitOn; simp +decide [String.splitOnAux])) (by decide +kernel) (by kernel_rfl)
theorem mro_map : mroOf (.type "map") = pure [.type "map", .type "object"] := by rw [mroOf_type]; kernel_rfl
theorem lookup_map_new : typeLookup (.type "map") "__new__" = pure (some (.builtin "map.__new__")) := by rw [typeLookup_type, builtinLookup_eq_fast]; kernel_rfl
theorem called_map : TypeCalled "map" "map.__new__" "object.__init__" :=
  ⟨by decide +kernel, by decide +kernel, ⟨_, _, mro_map⟩, madeBy_type mro_map lookup_map_new (by decide +kernel), by decide +kernel, by rw [isSubtype_type]; kernel_rfl, slot_map_init⟩
theorem typeCall_map_2 (a b : Value) : checkTypeCall "map" ⟨[a, b], []⟩ = pure () := by kernel_rfl
theorem newCall_map_2 (a b : Value) : checkBuiltinCall "map.__new__" ⟨[.type "map", a, b], []⟩ = pure () := by kernel_rfl
theorem entry_map_new : entryFor table "map.__new__" = some Builtin.«map.__new__» := entryFor_of_tree (by kernel_rfl)
theorem sub_map : isSubtype (.type "map") (.type "map") = pure true := by rw [isSubtype_type]; kernel_rfl
theorem plain_reduce : plainId "_functools.reduce" = true := by decide +kernel
theorem entry_reduce : entryFor table "_functools.reduce" = some Builtin.«_functools.reduce» := entryFor_of_tree (by kernel_rfl)
theorem entry_loop : entryFor table "_functools.reduce.loop" = some Builtin.«_functools.reduce.loop» := entryFor_of_tree (by kernel_rfl)
theorem plain_loop : plainId "_functools.reduce.loop" = true := by decide +kernel
theorem check_reduce (a b c : Value) : checkBuiltinCall "_functools.reduce" ⟨[a, b, c], []⟩ = pure () := by kernel_rfl
theorem plain_xor : plainId "_operator.xor" = true := by decide +kernel
theorem entry_xor : entryFor table "_operator.xor" = some Builtin.«_operator.xor» := entryFor_of_tree (by kernel_rfl)
theorem check_xor (a b : Value) : checkBuiltinCall "_operator.xor" ⟨[a, b], []⟩ = pure () := by kernel_rfl
end Mine
end

section
set_option maxHeartbeats 4000000
namespace Mine
theorem resetMapN : True := by
  k_with_none
  w_top off
  trivial
abbrev IsMapO (h : Heap) (mp TI : Addr) : Prop := h.get? mp = some { cls := .type "map", data := .fields #[.ref TI, .builtin "ord"] }
abbrev IsOne (h : Heap) (TI it : Addr) : Prop := h.get? TI = some { cls := .type "tuple", data := .seq #[.ref it] }
section
variable {prog : Program} {w : World} {A : Around} {E : Value → Shared → Prop} {s : Shared} {mp TI it : Addr} {x : Str} {t : Tok} {i c : Nat}
theorem map_next_item {Q : Value → Shared → Prop} (hm : IsMapO s.heap mp TI) (hT : IsOne s.heap TI it) (hit : s.heap.IsStrIter it "str_ascii_iterator" x t i) (hx : x.cps[i]? = some c) (n1 : mp ≠ it)
    (hQ : ∀ h' u, h'.IsStrIter it "str_ascii_iterator" x t (i + 1) → Heap.SameBut it s.heap h' → Q (.int c u) { s with heap := h', toks := u + 1 }) :
    wpAny (model prog w) A (Builtin.«map.__next__» ⟨[.ref mp], []⟩) (fun fin s' => ∃ v, fin = .done (.ret v) ∧ Q v s') E s := by
  show wpAny _ _ (field (.ref mp) 0 >>= _) _ _ _
  refine wpAny_bind (wpAny_field hm rfl (x := .ref TI) rfl ?_)
  refine wpAny_bind (wpAny_seqItems hT rfl ?_)
  simp only [List.forIn_cons, List.forIn_nil, List.forIn_toArray]
  refine wpAny_bind (wpAny_bind (wpAny_bind (wpAny_holding (wpAny_nextOf_ascii_item hit hx fun h₁ hit₁ hs₁ => wpAny_pure (wpAny_pure ?_)))))
  have hm₁ : IsMapO h₁ mp TI := (hs₁.2 mp n1).trans hm
  refine wpAny_bind (wpAny_field hm₁ rfl (x := .builtin "ord") rfl ?_)
  refine wpAny_bind (wpAny_holding (P.ord_of_char ?_))
  exact wpAny_bind (wpAny_letGo (wpAny_pure ⟨_, rfl, hQ h₁ _ hit₁ hs₁⟩))
theorem map_next_end {Q : Fin → Shared → Prop} (hh : A.handled = none) (hm : IsMapO s.heap mp TI) (hT : IsOne s.heap TI it) (hit : s.heap.IsStrIter it "str_ascii_iterator" x t i) (hx : x.cps[i]? = none)
    (hE : ∀ h' e, Heap.ExtBut it s.heap h' → (∃ o, h'.get? e = some o ∧ o.cls = .type "StopIteration") → E (.ref e) { s with heap := h' }) :
    wpAny (model prog w) A (Builtin.«map.__next__» ⟨[.ref mp], []⟩) Q E s := by
  show wpAny _ _ (field (.ref mp) 0 >>= _) _ _ _
  refine wpAny_bind (wpAny_field hm rfl (x := .ref TI) rfl ?_)
  refine wpAny_bind (wpAny_seqItems hT rfl ?_)
  simp only [List.forIn_cons, List.forIn_nil, List.forIn_toArray]
  exact wpAny_bind (wpAny_bind (wpAny_bind (wpAny_holding (wpAny_nextOf_ascii_end hh hit hx hE))))
theorem map_pyNext_item {Q : Option Value → Shared → Prop} (hm : IsMapO s.heap mp TI) (hT : IsOne s.heap TI it) (hit : s.heap.IsStrIter it "str_ascii_iterator" x t i) (hx : x.cps[i]? = some c) (n1 : mp ≠ it)
    (hQ : ∀ h' u, h'.IsStrIter it "str_ascii_iterator" x t (i + 1) → Heap.SameBut it s.heap h' → Q (some (.int c u)) { s with heap := h', toks := u + 1 }) :
    wpAny (model prog w) A (pyNext (.ref mp)) Q E s := by
  have hTy : s.TypeIs (.ref mp) "map" := ⟨_, hm, rfl⟩
  unfold pyNext
  exact wpAny_bind (wpAny_attempt (wpAny_callSpecial?_slot (name := Str.ofString "__next__") hTy slot_map_next
    (wpAny_call_entry slot_map_next hTy entry_map_next (map_next_item hm hT hit hx n1 fun h' u a b => wpAny_pure (hQ h' u a b)) (args_map_next_1 _))))
theorem map_pyNext_end {Q : Option Value → Shared → Prop} (hh : A.handled = none) (hm : IsMapO s.heap mp TI) (hT : IsOne s.heap TI it) (hit : s.heap.IsStrIter it "str_ascii_iterator" x t i) (hx : x.cps[i]? = none)
    (hQ : ∀ h', Heap.ExtBut it s.heap h' → Q none { s with heap := h' }) :
    wpAny (model prog w) A (pyNext (.ref mp)) Q E s := by
  have hTy : s.TypeIs (.ref mp) "map" := ⟨_, hm, rfl⟩
  unfold pyNext
  refine wpAny_bind (wpAny_attempt (wpAny_callSpecial?_slot (name := Str.ofString "__next__") hTy slot_map_next
    (wpAny_call_entry slot_map_next hTy entry_map_next ?_ (args_map_next_1 _))))
  refine map_next_end hh hm hT hit hx fun h' e he hc => ?_
  obtain ⟨o, ho, hc⟩ := hc
  exact wpAny_bind (wpAny_isInstance (T := "StopIteration") (b := true) ⟨o, ho, hc⟩ isSubtype_stop (wpAny_pure (hQ _ he)))
end
end Mine
end

section
set_option maxHeartbeats 4000000
namespace Mine
local macro_rules | `(tactic| walk_at "none 0") => `(tactic| fail)
local macro_rules | `(tactic| walk_at "none 1") => `(tactic| fail)
local macro_rules | `(tactic| walk_at "none 2") => `(tactic| fail)
theorem resetRed : True := by
  k_with_none
  w_top off
  trivial
abbrev mH1 (h : Heap) (x : Str) (t : Tok) : Heap := h.push { cls := .type "str_ascii_iterator", data := .fields #[.str x t, .int 0 0] }
abbrev mH2 (h : Heap) (x : Str) (t : Tok) : Heap := (mH1 h x t).push { cls := .type "tuple", data := .seq #[.ref h.objs.size] }
abbrev mH3 (h : Heap) (x : Str) (t : Tok) : Heap := (mH2 h x t).push { cls := .type "map", data := .fields #[.ref (mH1 h x t).objs.size, .builtin "ord"] }
theorem meets_map_new (x : Str) (t : Tok) :
    Meets (Builtin.«map.__new__» ⟨[.type "map", .builtin "ord", .str x t], []⟩) (fun _ R s => x.cps.all (· < 128) = true ∧ R (.ok (.ret (.ref (mH2 s.heap x t).objs.size))) { s with heap := mH3 s.heap x t }) :=
  .of_wp fun prog w A R s h => by
    obtain ⟨hp, g, d, tk, os⟩ := s; obtain ⟨ha, h⟩ := h
    have hsub := sub_map
    wp_walk using wpAny_pyIter_ascii ha
    exact ⟨_, rfl, h⟩
section
variable {prog : Program} {w : World} {A : Around} {E : Value → Shared → Prop} {s : Shared} {x : Str} {t : Tok}
theorem call_map {Q : Value → Shared → Prop} (ha : x.cps.all (· < 128) = true)
    (h : ∀ h', IsMapO h' (s.heap.objs.size + 2) (s.heap.objs.size + 1) → IsOne h' (s.heap.objs.size + 1) s.heap.objs.size → h'.get? s.heap.objs.size = some { cls := .type "str_ascii_iterator", data := .fields #[.str x t, .int 0 0] } → h'.objs.size = s.heap.objs.size + 3 →
      (∀ c o, s.heap.get? c = some o → h'.get? c = some o) → Q (.ref (s.heap.objs.size + 2)) { s with heap := h' }) :
    wpAny (model prog w) A (call (.type "map") [.builtin "ord", .str x t]) Q E s := by
  refine callType_new called_map (by decide) (typeCall_map_2 _ _) (newCall_map_2 _ _) (fun obj => initOk_3 obj _ _) entry_map_new (meets_map_new x t) ⟨ha, ?_⟩
  have z1 : (mH1 s.heap x t).objs.size = s.heap.objs.size + 1 := Heap.size_push ..
  have z2 : (mH2 s.heap x t).objs.size = s.heap.objs.size + 2 := by rw [Heap.size_push, z1]
  have z3 : (mH3 s.heap x t).objs.size = s.heap.objs.size + 3 := by rw [Heap.size_push, z2]
  have g3 : (mH3 s.heap x t).get? (mH2 s.heap x t).objs.size = some _ := Heap.get?_push_size _ rfl
  have g2 : (mH3 s.heap x t).get? (mH1 s.heap x t).objs.size = some _ := Heap.get?_push_of_some _ (Heap.get?_push_size _ rfl)
  have g1 : (mH3 s.heap x t).get? s.heap.objs.size = some _ := Heap.get?_push_of_some _ (Heap.get?_push_of_some _ (Heap.get?_push_size _ rfl))
  show _ ∧ _
  rw [z1, z2] at g3
  rw [z1] at g2
  rw [z2]
  exact ⟨⟨_, g3, rfl⟩, h _ g3 g2 g1 z3 fun c o q => Heap.get?_push_of_some _ (Heap.get?_push_of_some _ (Heap.get?_push_of_some _ q))⟩
theorem map_pyIter {mp TI : Addr} {Q : Value → Shared → Prop} (hm : IsMapO s.heap mp TI) (h : Q (.ref mp) s) : wpAny (model prog w) A (pyIter (.ref mp)) Q E s := by
  have hT : s.TypeIs (.ref mp) "map" := ⟨_, hm, rfl⟩
  refine wpAny_pyIter_slot hT slot_map_iter (wpAny_call_entry slot_map_iter hT entry_map_iter ?_ (args_map_iter_1 _))
  show wpAny _ _ (ret (.ref mp)) _ _ s
  exact wpAny_pure ⟨_, rfl, "map", _, hT, slot_map_next.lookup, h⟩
theorem xor_call {a b : Int} {u v : Tok} {Q : Value → Shared → Prop} (h : Q (.int (Builtin.bitXor a b) s.toks) { s with toks := s.toks + 1 }) : wpAny (model prog w) A (call (.builtin "_operator.xor") [.int a u, .int b v]) Q E s := by
  refine wpAny_call (codeAny_call_builtin plain_xor entry_xor ?_)
  rw [check_xor]
  refine wpAny_pure ?_
  unfold Builtin.«_operator.xor»
  refine wpAny_bind (wpAny_of_eq (a := (.int a u, .int b v)) (by kernel_rfl) ?_)
  exact wpAny_bind (xor_int (wpAny_pure h))
end
end Mine
end

section
set_option maxHeartbeats 4000000
namespace Mine
theorem resetRed2 : True := by
  k_with_none
  w_top off
  trivial
section
variable {prog : Program} {w : World} {A : Around} {x : Str} {t u0 : Tok} {p o mp TI it : Addr} {R : Result → Shared → Prop}
structure RedAt (h : Heap) (p o mp TI it : Addr) (x : Str) (t u0 : Tok) (i : Nat) : Prop where
  pair : ∃ a b, IsPair h p a b
  own : h.get? o = some { cls := .type "tuple", data := .seq #[.builtin "_operator.xor", .ref mp, .int 0 u0] }
  m : IsMapO h mp TI
  one : IsOne h TI it
  iter : h.IsStrIter it "str_ascii_iterator" x t i
structure RedApart (p o mp TI it : Addr) : Prop where
  pi : p ≠ it
  oi : o ≠ it
  mi : mp ≠ it
  ti : TI ≠ it
  op : o ≠ p
  mp : mp ≠ p
  tp : TI ≠ p
theorem red_loop (hh : A.handled = none) (D : RedApart p o mp TI it) : ∀ (k i : Nat) (acc : Int) (u : Tok) (s : Shared), i + k = x.cps.size → RedAt s.heap p o mp TI it x t u0 i →
    (∀ h' tk u', (∀ b q, b ≠ it → b ≠ p → s.heap.get? b = some q → h'.get? b = some q) → R (.ok (.ret (.int (((KStt.codes x).drop i).foldl Builtin.bitXor acc) u'))) { s with heap := h', toks := tk }) →
    codeAny (model prog w) A (.builtin "_functools.reduce.loop" ⟨[.ref p, .ref mp, .ref o, .int acc u], []⟩) R s
  | 0, i, acc, u, s, hk, H, hR => by
    refine codeAny_builtin entry_loop ?_
    rw [Around.under_plainId plain_loop]
    unfold Builtin.«_functools.reduce.loop»
    dsimp only
    refine wpAny_bind (wpAny_seqItems H.own rfl ?_)
    refine wpAny_bind (map_pyNext_end (by exact hh) H.m H.one H.iter (by simp; omega) fun h' he => ?_)
    have e : (KStt.codes x).drop i = [] := List.drop_eq_nil_of_le (by unfold KStt.codes; rw [List.length_map, Array.length_toList]; omega)
    rw [e] at hR
    exact wpAny_pure (hR h' s.toks u fun b q nb _ hb => he b q nb hb)
  | k + 1, i, acc, u, s, hk, H, hR => by
    have hi : i < x.cps.size := by omega
    refine codeAny_builtin entry_loop ?_
    rw [Around.under_plainId plain_loop]
    unfold Builtin.«_functools.reduce.loop»
    dsimp only
    refine wpAny_bind (wpAny_seqItems H.own rfl ?_)
    refine wpAny_bind (map_pyNext_item (c := x.cps[i]) H.m H.one H.iter (by simp [hi]) D.mi fun h₁ v hit₁ hs₁ => ?_)
    obtain ⟨pa, pb, hp⟩ := H.pair
    have hp₁ : IsPair h₁ p pa pb := (hs₁.2 p D.pi).trans hp
    dsimp only
    refine wpAny_bind (wpAny_seqItems hp₁ rfl ?_)
    refine wpAny_bind (wpAny_updateSeq_pair hp₁ fun h₂ hp₂ hs₂ => ?_)
    replace hp₂ : IsPair h₂ p (.int acc u) pb := hp₂
    replace hs₂ : Heap.SameBut p h₁ h₂ := hs₂
    refine wpAny_bind (wpAny_letGo ?_)
    refine wpAny_bind (wpAny_updateSeq_pair hp₂ fun h₃ hp₃ hs₃ => ?_)
    replace hp₃ : IsPair h₃ p (.int acc u) (.int (x.cps[i] : Nat) v) := hp₃
    replace hs₃ : Heap.SameBut p h₂ h₃ := hs₃
    refine wpAny_bind (wpAny_letGo ?_)
    refine wpAny_bind (xor_call ?_)
    have keep : ∀ b q, b ≠ it → b ≠ p → s.heap.get? b = some q → h₃.get? b = some q := fun b q n1 n2 e => (hs₃.2 b n2).trans ((hs₂.2 b n2).trans ((hs₁.2 b n1).trans e))
    have hit₃ : h₃.IsStrIter it "str_ascii_iterator" x t (i + 1) := (hit₁.extBut hs₂.extBut D.pi.symm).extBut hs₃.extBut D.pi.symm
    refine wpAny_pure ⟨plainId_quiet plain_loop _, red_loop hh D k (i + 1) _ _ _ (by omega) ⟨⟨_, _, hp₃⟩, keep _ _ D.oi D.op H.own, keep _ _ D.mi D.mp H.m, keep _ _ D.ti D.tp H.one, hit₃⟩ fun h' tk u' hq => ?_⟩
    have e : (KStt.codes x).drop i = ((x.cps[i] : Nat) : Int) :: (KStt.codes x).drop (i + 1) := by
      have hl : i < (KStt.codes x).length := by unfold KStt.codes; rw [List.length_map, Array.length_toList]; exact hi
      rw [List.drop_eq_getElem_cons hl]
      congr 1
      simp [KStt.codes]
    rw [e] at hR
    exact hR h' tk u' fun b q n1 n2 eb => hq b q n1 n2 (keep b q n1 n2 eb)
theorem reduce_call {E : Value → Shared → Prop} {s : Shared} {Q : Value → Shared → Prop} (hh : A.handled = none) (hm : IsMapO s.heap mp TI) (hT : IsOne s.heap TI it) (hit : s.heap.IsStrIter it "str_ascii_iterator" x t 0) (n1 : mp ≠ it) (n2 : TI ≠ it)
    (h : ∀ h' tk u', (∀ b q, b ≠ it → s.heap.get? b = some q → h'.get? b = some q) → Q (.int (xorI (KStt.codes x)) u') { s with heap := h', toks := tk }) :
    wpAny (model prog w) A (call (.builtin "_functools.reduce") [.builtin "_operator.xor", .ref mp, .int 0 u0]) Q E s := by
  refine wpAny_call (codeAny_call_builtin plain_reduce entry_reduce ?_)
  rw [check_reduce]
  refine wpAny_pure ?_
  unfold Builtin.«_functools.reduce»
  refine wpAny_bind (wpAny_of_eq (a := [.builtin "_operator.xor", .ref mp, .int 0 u0]) (by kernel_rfl) ?_)
  refine wpAny_bind (wpAny_tryCatch (map_pyIter (by exact hm) ?_))
  refine wpAny_bind (wpAny_holding (wpAny_newTuple ?_))
  refine wpAny_bind (wpAny_holding (wpAny_newTuple ?_))
  have ms : mp < s.heap.objs.size := Heap.lt_size hm
  have ts : TI < s.heap.objs.size := Heap.lt_size hT
  have is : it < s.heap.objs.size := by obtain ⟨_, e, _⟩ := hit; exact Heap.lt_size e
  obtain ⟨hp, gg, dd, tk0, os⟩ := s
  dsimp only at hm hT hit ms ts is h ⊢
  have z1 : (hp.push { cls := .type "tuple", data := .seq #[rawInt 0, rawInt 0] }).objs.size = hp.objs.size + 1 := Heap.size_push ..
  have up : ∀ b q, hp.get? b = some q → ((hp.push { cls := .type "tuple", data := .seq #[rawInt 0, rawInt 0] }).push { cls := .type "tuple", data := .seq #[.builtin "_operator.xor", .ref mp, .int 0 u0] }).get? b = some q := fun b q e => Heap.get?_push_of_some _ (Heap.get?_push_of_some _ e)
  have D : RedApart hp.objs.size (hp.objs.size + 1) mp TI it := ⟨Nat.ne_of_gt is, Nat.ne_of_gt (Nat.lt_succ_of_lt is), n1, n2, Nat.succ_ne_self _, Nat.ne_of_lt ms, Nat.ne_of_lt ts⟩
  have H : RedAt ((hp.push { cls := .type "tuple", data := .seq #[rawInt 0, rawInt 0] }).push { cls := .type "tuple", data := .seq #[.builtin "_operator.xor", .ref mp, .int 0 u0] }) hp.objs.size (hp.objs.size + 1) mp TI it x t u0 0 := by
    refine ⟨⟨_, _, Heap.get?_push_of_some _ (Heap.get?_push_size _ rfl)⟩, ?_, up _ _ hm, up _ _ hT, ?_⟩
    · rw [← z1]; exact Heap.get?_push_size _ rfl
    · obtain ⟨o, e, r⟩ := hit
      exact ⟨o, up _ _ e, r⟩
  refine wpAny_pure ⟨plainId_quiet plain_loop _, ?_⟩
  have L := red_loop (prog := prog) (w := w) (u0 := u0) (R := fun r s' => match r with | .ok (.ret v) => Q v s' | .ok _ => False | .error e => E e s') hh D x.cps.size 0 0 u0 ⟨_, gg, dd, tk0, os⟩ (by omega) H fun h' tk u' hq => ?_
  · have e2 : (hp.push { cls := .type "tuple", data := .seq #[rawInt 0, rawInt 0] }).objs.size = hp.objs.size + 1 := z1
    rw [← e2] at L
    exact L
  · exact h h' tk u' fun b q nb e => hq b q nb (fun z => by rw [z] at e; exact absurd (Heap.lt_size e) (Nat.lt_irrefl _)) (up b q e)
end
end Mine
end

section
set_option maxHeartbeats 8000000
namespace Mine
local macro_rules | `(tactic| walk_at "none 0") => `(tactic| fail)
local macro_rules | `(tactic| walk_at "none 1") => `(tactic| fail)
local macro_rules | `(tactic| walk_at "none 2") => `(tactic| fail)
local macro_rules | `(tactic| walk_at "none 3") => `(tactic| fail)
theorem resetCs : True := by
  k_with_none
  w_top off
  trivial
theorem fillCs : PySem.Challenge.rw_dg5011_01 = PySem.Challenge.rw_dg5011_01 ∧ hd.heap_39 = hd.heap_39 := by
  k_fill
  exact ⟨rfl, rfl⟩
section
variable {prog : Program} {w : World} {A : Around} {E : Value → Shared → Prop} {s : Shared} {x : Str} {t u0 : Tok} {h₀ : Heap} {L : Addr} {m : Str → Option Value} {news : List (Addr × Obj)} {Q : Value → Shared → Prop}
abbrev mapO (TI : Addr) : Obj := { cls := .type "map", data := .fields #[.ref TI, .builtin "ord"] }
abbrev oneO (it : Addr) : Obj := { cls := .type "tuple", data := .seq #[.ref it] }
abbrev iterO (x : Str) (t : Tok) : Obj := { cls := .type "str_ascii_iterator", data := .fields #[.str x t, .int 0 0] }
theorem map_K (ha : x.cps.all (· < 128) = true) (F : Fr h₀ L s.heap m) (N : News h₀ L s.heap news)
    (h : ∀ mp TI it h', mp ≠ it → TI ≠ it → Fr h₀ L h' m → News h₀ L h' ((mp, mapO TI) :: (TI, oneO it) :: (it, iterO x t) :: news) → (∀ p ∈ news, p.1 < it) → Q (.ref mp) { s with heap := h' }) :
    wpAny (model prog w) A (call (.type "map") [.builtin "ord", .str x t]) Q E s := by
  refine call_map ha fun h' hm h1 hi hz keep => ?_
  have fresh : ∀ b, s.heap.objs.size ≤ b → h₀.get? b = none := fun b hb => by
    cases e : h₀.get? b with
    | none => rfl
    | some o => exact absurd (Heap.lt_size (F.keep _ _ e)) (Nat.not_lt.mpr hb)
  obtain ⟨oL, es, ep, hL, r⟩ := F.ns
  have lL : L < s.heap.objs.size := Heap.lt_size hL
  refine h _ _ _ h' (Nat.ne_of_gt (Nat.lt_succ_of_lt (Nat.lt_succ_self _))) (Nat.succ_ne_self _) ⟨⟨oL, es, ep, keep _ _ hL, r⟩, fun b o e => keep _ _ (F.keep b o e), F.above⟩ ?_ fun p hp => Heap.lt_size (N p hp).1
  intro p hp
  rcases List.mem_cons.mp hp with rfl | hp
  · exact ⟨hm, Nat.ne_of_gt (Nat.lt_succ_of_lt (Nat.lt_succ_of_lt lL)), fresh _ (Nat.le_succ_of_le (Nat.le_succ _))⟩
  · rcases List.mem_cons.mp hp with rfl | hp
    · exact ⟨h1, Nat.ne_of_gt (Nat.lt_succ_of_lt lL), fresh _ (Nat.le_succ _)⟩
    · rcases List.mem_cons.mp hp with rfl | hp
      · exact ⟨hi, Nat.ne_of_gt lL, fresh _ (Nat.le_refl _)⟩
      · exact ⟨keep _ _ (N p hp).1, (N p hp).2⟩
theorem reduce_K {mp TI it : Addr} (hh : A.handled = none) (F : Fr h₀ L s.heap m) (N : News h₀ L s.heap ((mp, mapO TI) :: (TI, oneO it) :: (it, iterO x t) :: news)) (n1 : mp ≠ it) (n2 : TI ≠ it) (hl : ∀ p ∈ news, p.1 < it)
    (h : ∀ h' tk u', Fr h₀ L h' m → News h₀ L h' news → Q (.int (xorI (KStt.codes x)) u') { s with heap := h', toks := tk }) :
    wpAny (model prog w) A (call (.builtin "_functools.reduce") [.builtin "_operator.xor", .ref mp, .int 0 u0]) Q E s := by
  have Ni := N _ (.tail _ (.tail _ (.head _)))
  refine reduce_call hh (N _ (.head _)).1 (N _ (.tail _ (.head _))).1 ⟨_, Ni.1, rfl, rfl⟩ n1 n2 fun h' tk u' keep => ?_
  obtain ⟨oL, es, ep, hL, r⟩ := F.ns
  refine h h' tk u' ⟨⟨oL, es, ep, keep _ _ (fun z => Ni.2.1 z.symm) hL, r⟩, fun b o e => keep _ _ (fun z => by rw [z] at e; exact Option.some_ne_none _ (e.symm.trans Ni.2.2)) (F.keep b o e), F.above⟩ ?_
  intro p hp
  have Np := N p (.tail _ (.tail _ (.tail _ hp)))
  exact ⟨keep _ _ (Nat.ne_of_lt (hl p hp)) Np.1, Np.2⟩
theorem asc_all (ha : Asc x) : x.cps.all (· < 128) = true := by
  rw [← Array.all_toList, List.all_eq_true]
  intro c hc
  have := ha (c : Int) (by unfold KStt.codes; exact List.mem_map_of_mem hc)
  exact decide_eq_true (by omega)
end
local macro_rules | `(tactic| walk_at "call type:map") => `(tactic| (k_here; (refine' map_K ?a ?F ?N ?_; (case a => assumption); (case F => k_asm); (case N => k_asm)); intro mp TI it h' n1 n2 F' N' l1; (try dsimp only)))
local macro_rules | `(tactic| walk_at "call builtin:_functools.reduce") => `(tactic| (k_here; (refine' reduce_K ?a ?F ?N ?b ?c ?d ?_; (case a => rfl); (case F => k_asm); (case N => k_asm); (case b => assumption); (case c => assumption); (case d => assumption)); intro h' tk u' F' N'; (try dsimp only)))
theorem cs_spec (w : World) (x : Str) (t : Tok) (ha : Asc x) : Con w 4 40 (.ref 113) [.str x t] [] (fun r tl => ∃ u, r = .int (xorI (KStt.codes x)) u ∧ tl = []) := by
  intro loose mean mg mb dp un gd cn cs ca ccd cl outer A₀ base h₀ L m news s Q E B F X N T hk ho hdp hun hret
  have N1 : News h₀ L s.heap [] := fun p hp => nomatch hp
  have hall := asc_all ha
  refine wpAny_call ?_
  k_dflt (refine' code_own (own := []) (binds := [(("nmea_str" : Str), .str x t)]) ?k1 ?k2 ?k3 ?k4 ?k5 ?kA ?kF ?kK ?k6 ?k7 ?k8 ?kB ?k9 ?_ ?c2 ?c3 ?c4 ?c5; (case kA => exact rfl); (case kF => exact rfl); (case kK => assumption); (case k1 => k_asm); (case k2 => k_asm); (case k3 => k_asm); (case k4 => k_asm); (case k5 => k_asm); (case k6 => k_is); (case k7 => k_is); (case k8 => ktr_room); (case kB => first | exact BindsTo.of_eq rfl | exact binds_K (by k_in) rfl (by k_is) rfl rfl rfl); (case c5 => decide); (case k9 => exact locs rfl); (case c2 => exact rfl); (case c3 => exact rfl); (case c4 => exact rfl); k_whole)
  intro g' L' h' hg' hL' FG' F' N' hlt' B' X' T'
  (try dsimp only)
  (try k_fold)
  k_steps
  exact hret _ [] _ _ (by assumption) (con_back (tl := []) N hg' (by assumption) (by assumption) ho) (by intro q h; cases h) ⟨_, rfl, rfl⟩
end Mine
end

section
namespace Mine
/-- a text's signs -/
abbrev sg (x : Str) : List Nat := x.cps.toList
theorem sg_app (x y : Str) : sg (x ++ y) = sg x ++ sg y := by simp [sg, Str.cps_append]
theorem sg_inj {x y : Str} (h : sg x = sg y) : x = y := Str.ext' (Array.toList_inj.mp h)
theorem sg_len (x : Str) : (sg x).length = x.length := by simp [sg, Str.length]
theorem sl_to {x : Str} {j : Nat} {p q : List Nat} (e : sg x = p ++ q) (hj : p.length = j) : sg (Txt.slice x none (some (j : Int))) = p := by
  have h := beq_iff_eq.mp (slice_closes_to (x := x) (j := (j : Int)) (by
    have : x.cps.toList.length = p.length + q.length := by rw [← List.length_append, ← e]
    omega))
  rw [h]
  show ((sg x).drop 0).take _ = _
  rw [e, ← hj]; simp
theorem sl_from {x : Str} {j : Nat} {p q : List Nat} (e : sg x = p ++ q) (hj : p.length = j) : sg (Txt.slice x (some (j : Int)) none) = q := by
  have l : x.cps.toList.length = p.length + q.length := by rw [← List.length_append, ← e]
  have h := beq_iff_eq.mp (slice_closes_from (x := x) (i := (j : Int)) (by omega))
  rw [h]
  show ((sg x).drop ((j : Int)).toNat).take _ = _
  rw [e, ← hj, l]; simp
  exact List.take_of_length_le (by omega)
theorem sl_mid {x : Str} {i j : Nat} {p q r : List Nat} (e : sg x = p ++ (q ++ r)) (hi : p.length = i) (hj : p.length + q.length = j) : sg (Txt.slice x (some (i : Int)) (some (j : Int))) = q := by
  have l : x.cps.toList.length = p.length + (q.length + r.length) := by rw [← List.length_append, ← List.length_append, ← e]
  have h := beq_iff_eq.mp (slice_closes (x := x) (i := (i : Int)) (j := (j : Int)) (by omega))
  rw [h]
  show ((sg x).drop ((i : Int)).toNat).take _ = _
  have z : ((j : Int) - (i : Int)).toNat = q.length := by omega
  rw [z, e, Int.toNat_natCast, ← hi, List.drop_left, List.take_left]
theorem part_at {x : Str} {c : Nat} {p q : List Nat} (e : sg x = p ++ (c :: q)) (hp : c ∉ p) : Txt.partition x ⟨#[c]⟩ = (⟨p.toArray⟩, ⟨#[c]⟩, ⟨q.toArray⟩) := by
  have l : (sg x).length = p.length + (q.length + 1) := by rw [e]; simp
  have at1 : (sg x)[p.length]? = some c := by rw [e]; simp
  have A1 := (StrLaws.subAt_one x c p.length).mpr at1
  unfold Txt.partition
  rcases StrLaws.occ_head_from x ⟨#[c]⟩ 0 1 (Nat.le_refl _) with ⟨_, hn⟩ | ⟨i, r, ho, _, hi, hn⟩
  · exact absurd A1 (hn _ (Nat.zero_le _))
  · rw [ho]
    dsimp only
    have hi' := (StrLaws.subAt_one x c i).mp hi
    have ei : i = p.length := by
      rcases Nat.lt_trichotomy i p.length with h | h | h
      · exfalso
        have : (sg x)[i]? = some c := hi'
        rw [e, List.getElem?_append_left h] at this
        exact hp (List.mem_of_getElem? this)
      · exact h
      · exact absurd A1 (hn _ (Nat.zero_le _) h)
    subst ei
    have l1 : (⟨#[c]⟩ : Str).length = 1 := rfl
    have e1 : Builtin.Str.strSub x 0 p.length = ⟨p.toArray⟩ := by
      apply sg_inj
      show (Builtin.Str.strSub x 0 p.length).cps.toList = p
      rw [StrLaws.strSub_toList]
      show ((sg x).drop 0).take _ = p
      rw [e]; simp
    have e2 : Builtin.Str.strSub x (p.length + (⟨#[c]⟩ : Str).length) x.length = ⟨q.toArray⟩ := by
      apply sg_inj
      show (Builtin.Str.strSub x _ x.length).cps.toList = q
      rw [StrLaws.strSub_toList, l1]
      show ((sg x).drop _).take _ = q
      rw [← sg_len x, l, e, ← List.drop_drop, List.drop_left]
      simp
      exact List.take_of_length_le (by omega)
    rw [e1, e2]
theorem lstrip_same {x : Str} {c : Nat} {q : List Nat} (e : sg x = c :: q) (hc : Unicode.isSpace c = false) : Txt.lstrip x = x := by
  unfold Txt.lstrip Txt.stripBy
  rw [if_pos]
  unfold stripSame stripLo stripHi
  show (((if true = true then ((sg x).takeWhile Unicode.isSpace).length else 0) == 0) && _) = true
  rw [e]
  simp [hc]
/-- a join of texts that bear no c, split at c -/
theorem join_cons_toList (c : Nat) (x : Str) (y : Str) (r : List Str) : sg (Str.join ⟨#[c]⟩ (x :: y :: r)) = sg x ++ (c :: sg (Str.join ⟨#[c]⟩ (y :: r))) := by
  show sg (x ++ ⟨#[c]⟩ ++ Str.join ⟨#[c]⟩ (y :: r)) = _
  rw [sg_app, sg_app]
  simp [sg]
theorem app_cut {c : Nat} : ∀ {p p' q q' : List Nat}, c ∉ p → c ∉ p' → p ++ (c :: q) = p' ++ (c :: q') → p = p' ∧ q = q'
  | [], [], q, q', _, _, h => ⟨rfl, (List.cons.inj h).2⟩
  | [], a :: p', q, q', _, h', h => absurd (by rw [← (List.cons.inj h).1]; exact List.mem_cons_self) h'
  | a :: p, [], q, q', hp, _, h => absurd (by rw [(List.cons.inj h).1]; exact List.mem_cons_self) hp
  | a :: p, b :: p', q, q', hp, hp', h => by
    obtain ⟨e1, e2⟩ := List.cons.inj h
    obtain ⟨e3, e4⟩ := app_cut (fun z => hp (List.mem_cons_of_mem _ z)) (fun z => hp' (List.mem_cons_of_mem _ z)) e2
    exact ⟨by rw [e1, e3], e4⟩
theorem join_inj {c : Nat} : ∀ {xs ys : List Str}, xs ≠ [] → ys ≠ [] → (∀ x ∈ xs, c ∉ sg x) → (∀ y ∈ ys, c ∉ sg y) → Str.join ⟨#[c]⟩ xs = Str.join ⟨#[c]⟩ ys → xs = ys
  | [], _, h, _, _, _, _ => absurd rfl h
  | _, [], _, h, _, _, _ => absurd rfl h
  | [x], [y], _, _, _, _, h => by have h : x = y := h; rw [h]
  | [x], y :: y' :: r, _, _, h1, _, h => by
    exfalso
    have e := congrArg sg h
    rw [join_cons_toList] at e
    have h1' := h1 x (List.mem_cons_self)
    have e : sg x = _ := e
    rw [e] at h1'
    simp at h1'
  | x :: x' :: r, [y], _, _, _, h2, h => by
    exfalso
    have e := congrArg sg h
    rw [join_cons_toList] at e
    have h2' := h2 y (List.mem_cons_self)
    have e : _ = sg y := e
    rw [← e] at h2'
    simp at h2'
  | x :: x' :: r, y :: y' :: r', _, _, h1, h2, h => by
    have e := congrArg sg h
    rw [join_cons_toList, join_cons_toList] at e
    obtain ⟨e1, e2⟩ := app_cut (h1 x List.mem_cons_self) (h2 y List.mem_cons_self) e
    have z := join_inj (xs := x' :: r) (ys := y' :: r') (by simp) (by simp) (fun a ha => h1 a (List.mem_cons_of_mem _ ha)) (fun a ha => h2 a (List.mem_cons_of_mem _ ha)) (sg_inj e2)
    rw [sg_inj e1, z]
theorem split_ne (x y : Str) : Txt.split x y ≠ [] := by
  unfold Txt.split
  split
  · simp
  · split
    · simp
    · rw [StrLaws.partsBetween_eq]
      obtain ⟨p, r, e⟩ := StrLaws.partsFrom_ne x y.length 0 (Builtin.Str.occurrences x y 0 x.length (x.length + 1))
      rw [e]; simp
theorem split_join {c : Nat} {xs : List Str} (hn : xs ≠ []) (hf : ∀ x ∈ xs, c ∉ sg x) : Txt.split (Txt.join ⟨#[c]⟩ xs) ⟨#[c]⟩ = xs := by
  have e : Txt.join ⟨#[c]⟩ xs = Str.join ⟨#[c]⟩ xs := StrLaws.glued_eq_join _ _
  exact join_inj (split_ne _ _) hn (StrLaws.split_free _ c) hf (by rw [StrLaws.join_split, e])
theorem join_all {P : Nat → Prop} {c : Nat} (hc : P c) : ∀ {xs : List Str}, (∀ x ∈ xs, ∀ d ∈ sg x, P d) → ∀ d ∈ sg (Str.join ⟨#[c]⟩ xs), P d
  | [], _, d, hd => by simp [sg, Str.join, Str.empty] at hd
  | [x], h, d, hd => h x List.mem_cons_self d hd
  | x :: y :: r, h, d, hd => by
    rw [join_cons_toList, List.mem_append, List.mem_cons] at hd
    rcases hd with hd | rfl | hd
    · exact h x List.mem_cons_self d hd
    · exact hc
    · exact join_all hc (fun a ha => h a (List.mem_cons_of_mem _ ha)) d hd
theorem join_len {c n : Nat} : ∀ {xs : List Str}, (∀ x ∈ xs, x.length ≤ n) → (Str.join ⟨#[c]⟩ xs).length ≤ xs.length * (n + 1)
  | [], _ => Nat.zero_le _
  | [x], h => by
    have := h x List.mem_cons_self
    show x.length ≤ _
    simp only [List.length_cons, List.length_nil]; omega
  | x :: y :: r, h => by
    have a := h x List.mem_cons_self
    have b := join_len (c := c) (n := n) (xs := y :: r) (fun a ha => h a (List.mem_cons_of_mem _ ha))
    show (x ++ ⟨#[c]⟩ ++ Str.join ⟨#[c]⟩ (y :: r)).length ≤ _
    rw [Str.length_append, Str.length_append]
    have l1 : (⟨#[c]⟩ : Str).length = 1 := rfl
    rw [l1]
    simp only [List.length_cons, Nat.add_mul] at b ⊢
    omega
end Mine
end

section
set_option maxHeartbeats 8000000
namespace Mine
theorem resetXdr : True := by
  k_with_none
  w_top off
  trivial
theorem fillXdr : PySem.Challenge.rw_dg5011_01 = PySem.Challenge.rw_dg5011_01 ∧ hd.heap_39 = hd.heap_39 := by
  k_fill
  exact ⟨rfl, rfl⟩
theorem con_keep {h₀ g h h' : Heap} {L L' : Addr} {m' : Str → Option Value} {news own tl tl2 : List (Addr × Obj)} (N : News h₀ L h news) (hg : ∀ b o, h.get? b = some o → b ∉ own.map (·.1) → g.get? b = some o)
    (F' : Fr g L' h' m') (kN : News h₀ L h' tl2) (ht : ∀ p ∈ tl, p ∈ tl2) (hd : ∀ p ∈ news, p.1 ∈ own.map (·.1) → p ∈ tl2) : News h₀ L h' (tl ++ news) := by
  intro p hp
  rcases List.mem_append.mp hp with hp | hp
  · exact kN p (ht p hp)
  · by_cases q : p.1 ∈ own.map (·.1)
    · exact kN p (hd p hp q)
    · exact ⟨F'.keep _ _ (hg _ _ (N p hp).1 q), (N p hp).2⟩
/-- all that a call's frame has made, whatever it is -/
theorem allNews (h₀ : Heap) (L : Addr) (h : Heap) : ∃ al : List (Addr × Obj), News h₀ L h al ∧ ∀ b o, h.get? b = some o → b ≠ L → h₀.get? b = none → (b, o) ∈ al := by
  classical
  refine ⟨(List.range h.objs.size).filterMap fun b => match h.get? b with | some o => if b ≠ L ∧ h₀.get? b = none then some (b, o) else none | none => none, ?_, ?_⟩
  · intro p hp
    obtain ⟨b, _, e⟩ := List.mem_filterMap.mp hp
    cases eb : h.get? b with
    | none => rw [eb] at e; cases e
    | some o =>
      rw [eb] at e
      dsimp only at e
      split at e
      · rename_i hc
        cases e
        exact ⟨eb, hc.1, hc.2⟩
      · cases e
  · intro b o e n1 n2
    refine List.mem_filterMap.mpr ⟨b, List.mem_range.mpr (Heap.lt_size e), ?_⟩
    rw [e]
    dsimp only
    rw [if_pos ⟨n1, n2⟩]
theorem xdr_spec (w : World) (l : Addr) (vs : List Value) (nn : Nat) (a1 a2 : Str) (t1 t2 : Tok) (hlen : vs.length < 2 ^ 20) (hsz : vs.toArray.size ≤ sizeLine) :
   Con w 8 100 (.ref 394) [.str a1 t1, .str a2 t2, .ref l] [(l, listOf vs.toArray nn)] (fun r tl => ∃ x dx d k1 k2 k3 nd n, r = .ref x ∧ tl = [(x, instObj 394 dx), (dx, dictOf (sDict w k1 k2 k3 (.str a1 t1) (.str a2 t2) d) nd), (d, listOf vs.toArray n)]) := by
  intro loose mean mg mb dp un gd cn cs ca ccd cl outer A₀ base h₀ L m news s Q E B F X N T hk ho hdp hun hret
  obtain ⟨al, Nal, hal⟩ := allNews h₀ L s.heap
  have hnew : ∀ p ∈ news, p ∈ al := fun p hp => hal p.1 p.2 (N p hp).1 (N p hp).2.1 (N p hp).2.2
  k_dflt (refine' call_cls (news := al) ?a ?b ?c ?d ?e ?f ?_; (case a => k_asm); (case b => k_asm); (case c => assumption); (case d => k_is); (case e => k_is); (case f => k_is); k_whole)
  intro x dx h1 F1 N1 lt1 lt2
  have N2 : News h₀ L h1 [(x, instObj 394 dx), (dx, dictOf [] 0), (l, listOf vs.toArray nn)] := by
    intro p hp
    rcases hp with _ | ⟨_, _ | ⟨_, hp⟩⟩
    · exact N1 _ (.head _)
    · exact N1 _ (.tail _ (.head _))
    · exact N1 p (.tail _ (.tail _ (hnew _ (ho p hp))))
  have hl : @LT.lt Nat _ l dx := lt1 _ (hnew _ (ho _ (.head _)))
  have hl2 : @LT.lt Nat _ dx x := lt2
  have hl3 : @LT.lt Nat _ l x := Nat.lt_trans hl lt2
  have keep1 : ∀ b o, s.heap.get? b = some o → b ≠ L → h1.get? b = some o := fun b o e n1 => by
    cases e0 : h₀.get? b with
    | some o' => exact (F1.keep b o' e0).trans ((F.keep b o' e0).symm.trans e)
    | none => exact (N1 (b, o) (.tail _ (.tail _ (hal b o e n1 e0)))).1
  have low : ∀ b o, s.heap.get? b = some o → b ≠ L → h₀.get? b = none → @LT.lt Nat _ b dx := fun b o e n1 n2 => lt1 _ (hal b o e n1 n2)
  have N0' : News h₀ L h1 news := fun p hp => N1 p (.tail _ (.tail _ (hnew p hp)))
  have lt3 : ∀ p ∈ news, @LT.lt Nat _ p.1 dx := fun p hp => lt1 p (hnew p hp)
  have ndx := N1 _ (.tail _ (.head _))
  have nx := N1 _ (.head _)
  clear N1 Nal lt1 hal
  rename News h₀ L s.heap news => N0
  k_dflt (refine' code_own (own := [(x, instObj 394 dx), (dx, dictOf [] 0), (l, listOf vs.toArray nn)]) (binds := [(("self" : Str), .ref x), (("talker" : Str), .str a1 t1), (("sentence_type" : Str), .str a2 t2), (("data" : Str), .ref l)]) ?k1 ?k2 ?k3 ?k4 ?k5 ?kA ?kF ?kK ?k6 ?k7 ?k8 ?kB ?k9 ?_ ?c2 ?c3 ?c4 ?c5; (case kA => exact rfl); (case kF => exact rfl); (case kK => assumption); (case k1 => k_asm); (case k2 => k_asm); (case k3 => k_asm); (case k4 => k_asm); (case k5 => k_asm); (case k6 => k_is); (case k7 => k_is); (case k8 => ktr_room); (case kB => exact BindsTo.of_eq rfl); (case c5 => decide); (case k9 => exact locs rfl); (case c2 => exact rfl); (case c3 => exact rfl); (case c4 => exact rfl); k_whole)
  intro g' L' h' hg' hL' FG' F' N' hlt' B' X' T'
  (try dsimp only)
  (try k_fold)
  k_steps
  rename Fr h₀ L _ _ => kF
  rename News h₀ L _ _ => kN
  rename News g' L' _ (_ :: _ :: _ :: _) => Ng
  rename Fr g' L' _ _ => Fg
  rename _ ∧ _ ∧ _ => l1
  have old : ∀ {p : Addr × Obj}, p ∈ news → p.1 ∈ [x, dx, l] → p = (l, listOf vs.toArray nn) := by
    intro p hp hm
    have z := lt3 p hp
    rcases List.mem_cons.mp hm with hm | hm
    · rw [hm] at z; exact absurd (Nat.lt_trans hl2 z) (Nat.lt_irrefl _)
    rcases List.mem_cons.mp hm with hm | hm
    · rw [hm] at z; exact absurd z (Nat.lt_irrefl _)
    · rw [List.mem_singleton] at hm
      have a := (N0 p hp).1
      have b := (N0 _ (ho _ (.head _))).1
      rw [hm] at a
      exact Prod.ext hm (Option.some.inj (a.symm.trans b))
  have Z := con_keep (tl := [(x, _), (dx, _), (_, _)]) N0' hg' Fg kN (by
      intro p hp
      rcases hp with _ | ⟨_, _ | ⟨_, _ | ⟨_, hp⟩⟩⟩
      · exact .tail _ (.head _)
      · exact .tail _ (.tail _ (.head _))
      · exact .head _
      · cases hp) (by
      intro p hp hm
      rw [old hp hm]
      exact .tail _ (.tail _ (.tail _ (.head _))))
  refine hret _ _ _ _ kF Z ?_ ⟨x, dx, _, _, _, _, _, _, rfl, rfl⟩
  have none1 : ∀ b, @LE.le Nat _ dx b → b ≠ L → h₀.get? b = none → s.heap.get? b = none := fun b hb n1 n2 => by
    cases e : s.heap.get? b with
    | none => rfl
    | some o => exact absurd (low b o e n1 n2) (Nat.not_lt.mpr hb)
  have nd := kN _ (.head _)
  intro q hq
  rcases hq with _ | ⟨_, _ | ⟨_, _ | ⟨_, hq⟩⟩⟩
  · exact none1 x (Nat.le_of_lt hl2) nx.2.1 nx.2.2
  · exact none1 dx (Nat.le_refl _) ndx.2.1 ndx.2.2
  · exact none1 _ (Nat.le_of_lt l1.2.1) nd.2.1 nd.2.2
  · cases hq
end Mine
end

section
namespace Mine
theorem resetLines : True := by
  k_with_none
  w_top off
  trivial
def words7 : List Str := ["C", "12.5", "A", "", "TEMP", "P", "x y"]
theorem word_signs : ∀ x ∈ words7, (∀ d ∈ sg x, d < 128 ∧ d ≠ 42 ∧ d ≠ 44) ∧ x.length ≤ 4 := by decide +kernel
def textOf (xs : List Str) : Str := "IIXDR," ++ Txt.join "," xs
def hexT (xs : List Str) : Str := hexOf (xorI (KStt.codes (textOf xs)))
def lineOf (xs : List Str) : Str := "$" ++ textOf xs ++ "*" ++ hexT xs
theorem comma : (Str.ofString ",") = ⟨#[44]⟩ := by decide +kernel
theorem star1 : (Str.ofString "*") = ⟨#[42]⟩ := by decide +kernel
theorem join_comma (xs : List Str) : Txt.join "," xs = Str.join ⟨#[44]⟩ xs := by
  rw [comma]; exact StrLaws.glued_eq_join _ _
section
variable {xs : List Str} (hx : ∀ x ∈ xs, x ∈ words7)
theorem sg_text : sg (textOf xs) = [73, 73, 88, 68, 82, 44] ++ sg (Txt.join "," xs) := by
  unfold textOf
  rw [sg_app, show sg (Str.ofString "IIXDR,") = [73, 73, 88, 68, 82, 44] from by decide +kernel]
theorem sg_line : sg (lineOf xs) = (36 :: sg (textOf xs)) ++ (42 :: sg (hexT xs)) := by
  unfold lineOf
  rw [sg_app, sg_app, sg_app, show sg (Str.ofString "$") = [36] from by decide +kernel, show sg (Str.ofString "*") = [42] from by decide +kernel]
  simp
include hx
theorem join_signs : ∀ d ∈ sg (Txt.join "," xs), d < 128 ∧ d ≠ 42 := by
  rw [join_comma]
  exact join_all (P := fun d => d < 128 ∧ d ≠ 42) (by decide) fun x h d hd => ⟨((word_signs x (hx x h)).1 d hd).1, ((word_signs x (hx x h)).1 d hd).2.1⟩
theorem text_signs : ∀ d ∈ sg (textOf xs), d < 128 ∧ d ≠ 42 := by
  rw [sg_text]
  intro d hd
  rcases List.mem_append.mp hd with h | h
  · have z : ∀ d ∈ [73, 73, 88, 68, 82, 44], d < 128 ∧ d ≠ 42 := by decide
    exact z d h
  · exact join_signs hx d h
theorem text_asc : Asc (textOf xs) := by
  intro c hc
  unfold KStt.codes at hc
  obtain ⟨d, hd, rfl⟩ := List.mem_map.mp hc
  have := (text_signs hx d hd).1
  omega
theorem join_le : (Txt.join "," xs).length ≤ xs.length * 5 := by
  rw [join_comma]
  exact join_len fun x h => (word_signs x (hx x h)).2
omit hx in
theorem xor_bound : ∀ (l : List Int) (a : Int), 0 ≤ a → a < 128 → (∀ c ∈ l, 0 ≤ c ∧ c < 128) → 0 ≤ l.foldl Builtin.bitXor a ∧ l.foldl Builtin.bitXor a < 128
  | [], a, h0, h1, _ => ⟨h0, h1⟩
  | c :: l, a, h0, h1, h => by
    have z := xor_in h0 h1 (h c List.mem_cons_self).1 (h c List.mem_cons_self).2
    exact xor_bound l _ z.1 z.2 fun d hd => h d (List.mem_cons_of_mem _ hd)
theorem text_xor : 0 ≤ xorI (KStt.codes (textOf xs)) ∧ xorI (KStt.codes (textOf xs)) < 128 := xor_bound _ 0 (by decide) (by decide) (text_asc hx)
end
theorem hexFacts : ∀ t : Fin 128, (hexOf (t.val : Nat)).length = 2 ∧ Txt.slice (hexOf (t.val : Nat)) none (some 2) = hexOf (t.val : Nat) ∧ Txt.slice (hexOf (t.val : Nat)) (some 2) none = "" ∧ Txt.stripChars (hexOf (t.val : Nat)) "0123456789ABCDEFabcdef" = "" := by decide +kernel
theorem hexAll {n : Int} (h0 : 0 ≤ n) (h1 : n < 128) : (hexOf n).length = 2 ∧ Txt.slice (hexOf n) none (some 2) = hexOf n ∧ Txt.slice (hexOf n) (some 2) none = "" ∧ Txt.stripChars (hexOf n) "0123456789ABCDEFabcdef" = "" := by
  obtain ⟨t, rfl⟩ : ∃ t : Fin 128, n = ((t.val : Nat) : Int) := ⟨⟨n.toNat, by omega⟩, by dsimp only; omega⟩
  exact hexFacts t
theorem line_lstrip (xs : List Str) : Txt.lstrip (lineOf xs) = lineOf xs := lstrip_same (c := 36) (q := sg (textOf xs) ++ (42 :: sg (hexT xs))) (by rw [sg_line]; rfl) (by decide +kernel)
theorem line_part {xs : List Str} (hx : ∀ x ∈ xs, x ∈ words7) : Txt.partition (lineOf xs) "*" = (Str.ofString "$" ++ textOf xs, Str.ofString "*", hexT xs) := by
  rw [star1, part_at (c := 42) sg_line]
  · have e1 : (⟨(36 :: sg (textOf xs)).toArray⟩ : Str) = Str.ofString "$" ++ textOf xs := by
      apply sg_inj
      rw [sg_app, show sg (Str.ofString "$") = [36] from by decide +kernel]
      rfl
    have e2 : (⟨(sg (hexT xs)).toArray⟩ : Str) = hexT xs := by apply sg_inj; rfl
    rw [e1, e2]
  · intro h
    rcases List.mem_cons.mp h with h | h
    · exact absurd h (by decide)
    · exact (text_signs hx _ h).2 rfl
theorem sg_dollar (xs : List Str) : sg ("$" ++ textOf xs) = [36] ++ sg (textOf xs) := by rw [sg_app, show sg (Str.ofString "$") = [36] from by decide +kernel]
theorem line_f1 (xs : List Str) : Txt.slice ("$" ++ textOf xs) none (some 1) = "$" := sg_inj ((sl_to (j := 1) (sg_dollar xs) rfl).trans (by decide +kernel))
theorem line_f2 (xs : List Str) : Txt.slice ("$" ++ textOf xs) (some 1) none = textOf xs := sg_inj (sl_from (j := 1) (sg_dollar xs) rfl)
theorem line_f3 (xs : List Str) : Txt.slice (textOf xs) none (some 1) = "I" := sg_inj ((sl_to (j := 1) (p := [73]) (q := [73, 88, 68, 82, 44] ++ sg (Txt.join "," xs)) (by rw [sg_text]; rfl) rfl).trans (by decide +kernel))
theorem line_f4 (xs : List Str) : Txt.slice (textOf xs) none (some 4) = "IIXD" := sg_inj ((sl_to (j := 4) (p := [73, 73, 88, 68]) (q := [82, 44] ++ sg (Txt.join "," xs)) (by rw [sg_text]; rfl) rfl).trans (by decide +kernel))
theorem line_f5 (xs : List Str) : Txt.slice (textOf xs) (some 4) (some 6) = "R," := sg_inj ((sl_mid (i := 4) (j := 6) (p := [73, 73, 88, 68]) (q := [82, 44]) (r := sg (Txt.join "," xs)) (by rw [sg_text]; rfl) rfl rfl).trans (by decide +kernel))
theorem line_f6 (xs : List Str) : Txt.slice (textOf xs) none (some 5) = "IIXDR" := sg_inj ((sl_to (j := 5) (p := [73, 73, 88, 68, 82]) (q := [44] ++ sg (Txt.join "," xs)) (by rw [sg_text]; rfl) rfl).trans (by decide +kernel))
theorem line_f7 (xs : List Str) : Txt.slice (textOf xs) (some 5) (some 6) = "," := sg_inj ((sl_mid (i := 5) (j := 6) (p := [73, 73, 88, 68, 82]) (q := [44]) (r := sg (Txt.join "," xs)) (by rw [sg_text]; rfl) rfl rfl).trans (by decide +kernel))
theorem line_i1 (xs : List Str) : Txt.slice (textOf xs) none (some 6) = "IIXDR," := sg_inj ((sl_to (j := 6) (p := [73, 73, 88, 68, 82, 44]) (q := sg (Txt.join "," xs)) (by rw [sg_text]) rfl).trans (by decide +kernel))
theorem line_i2 (xs : List Str) : Txt.slice (textOf xs) (some 6) none = Txt.join "," xs := sg_inj (sl_from (j := 6) (p := [73, 73, 88, 68, 82, 44]) (by rw [sg_text]) rfl)
theorem line_split {xs : List Str} (hx : ∀ x ∈ xs, x ∈ words7) (hn : xs ≠ []) : Txt.split (Txt.join "," xs) "," = xs := by
  rw [comma]
  exact split_join hn fun x h hc => ((word_signs x (hx x h)).1 _ hc).2.2 rfl
theorem text_len {xs : List Str} (hx : ∀ x ∈ xs, x ∈ words7) (hl : xs.length ≤ 18) : (Txt.join "," xs).length ≤ 90 ∧ (textOf xs).length ≤ 96 ∧ (lineOf xs).length ≤ 100 := by
  have a := join_le hx
  have b : (textOf xs).length = 6 + (Txt.join "," xs).length := by unfold textOf; rw [Str.length_append]; rfl
  have c : (lineOf xs).length = 1 + (textOf xs).length + 1 + (hexT xs).length := by unfold lineOf; rw [Str.length_append, Str.length_append, Str.length_append]; rfl
  have d := (hexAll (text_xor hx).1 (text_xor hx).2).1
  have d : (hexT xs).length = 2 := d
  omega
end Mine
end

section
set_option maxHeartbeats 8000000
namespace Mine
local macro_rules | `(tactic| walk_at "none 0") => `(tactic| fail)
local macro_rules | `(tactic| walk_at "none 1") => `(tactic| fail)
local macro_rules | `(tactic| walk_at "none 2") => `(tactic| fail)
local macro_rules | `(tactic| walk_at "none 3") => `(tactic| fail)
local macro_rules | `(tactic| walk_at "none 4") => `(tactic| fail)
local macro_rules | `(tactic| walk_at "none 5") => `(tactic| fail)
local macro_rules | `(tactic| walk_at "none 6") => `(tactic| fail)
theorem resetParse1 : True := by
  k_with_none
  w_top off
  trivial
theorem fillParse1 : PySem.Challenge.rw_dg5011_01 = PySem.Challenge.rw_dg5011_01 ∧ hd.heap_39 = hd.heap_39 := by
  k_fill
  exact ⟨rfl, rfl⟩
local macro_rules | `(tactic| walk_at "subscriptTail") => `(tactic| (k_here; (with_reducible show wpAny _ _ (subscriptTail _ (Expr.Slice _ _ none _) (Value.str _ _) (Value.ref _)) _ _ _); k_dflt (first
  | (refine' sl_ns ?F ?N ?e ?z ?_ ?s ?t; (case e => assumption)) | (refine' sl_sn ?F ?N ?e ?z ?_ ?s ?t; (case e => assumption)) | (refine' sl_ss ?F ?N ?e ?z ?_ ?s ?t; (case e => assumption))); (case F => k_asm); (case N => k_asm); (case z => first | assumption | decide +kernel); (case s => with_unfolding_all rfl); (case t => intro _; with_unfolding_all rfl); k_whole; intro _ _ _ F' N'; (try k_sweep)))
local macro_rules | `(tactic| walk_at "subscriptTail Name Slice str ref") => `(tactic| walk_at "subscriptTail")
local macro_rules | `(tactic| walk_at "call ref") => `(tactic| (k_here; (with_reducible show wpAny _ _ (call (Value.ref 98) _) _ _ _); k_dflt (
  (first | refine' Con.use (word4 _ _ _) ?B ?F ?X ?N ?T ?hk ?ho ?d ?u ?_ | refine' Con.use (word5 _ _ _) ?B ?F ?X ?N ?T ?hk ?ho ?d ?u ?_);
  (case B => k_asm); (case F => k_asm); (case X => k_asm); (case N => k_asm); (case T => k_asm); (case hk => rfl); (case ho => intro _ h; cases h); (case d => first | omega | ktr_room | (simp only [Around.deeper, Around.in1]; omega)); (case u => first | omega | (simp only [Around.deeper, Around.in1]; omega)); k_whole; intro r tl h' tk' F' N' fr hr; obtain ⟨hr1, hr2⟩ := hr; subst hr1 hr2; clear fr; rw [List.nil_append] at N'; (try dsimp only); (try k_sweep))))
local macro_rules | `(tactic| walk_at "call ref") => `(tactic| (k_here; (with_reducible show wpAny _ _ (call (Value.ref 113) _) _ _ _); k_dflt (
  (refine' Con.use (cs_spec _ _ _ ?asc) ?B ?F ?X ?N ?T ?hk ?ho ?d ?u ?_);
  (case asc => assumption); (case B => k_asm); (case F => k_asm); (case X => k_asm); (case N => k_asm); (case T => k_asm); (case hk => rfl); (case ho => intro _ h; cases h); (case d => first | omega | ktr_room | (simp only [Around.deeper, Around.in1]; omega)); (case u => first | omega | (simp only [Around.deeper, Around.in1]; omega)); k_whole; intro r tl h' tk' F' N' fr hr; obtain ⟨u', hr1, hr2⟩ := hr; subst hr1 hr2; clear fr; rw [List.nil_append] at N'; (try dsimp only); (try k_sweep))))
local macro_rules | `(tactic| walk_at "call type:int") => `(tactic| (k_here; k_dflt (refine' call_hex ?a ?b ?c ?_; (case c => assumption); (case a => assumption); (case b => assumption)); (try dsimp only)))
local macro_rules | `(tactic| walk_at "truthy str") => `(tactic| (k_here; (refine' KXt.truthy_pos (K := 2) ?a ?b ?c ?_; (case a => omega); (case b => omega); (case c => decide)); intro _; (try dsimp only)))
local macro_rules | `(tactic| walk_at "call builtin:str.strip") => `(tactic| (k_here; (refine KXw.stripChars (by assumption) (by assumption) ?_); intro _ _; (try dsimp only)))
local macro_rules | `(tactic| walk_at "call builtin:str.split") => `(tactic| (k_here; (refine KSpl.split1 (by k_asm) (by k_asm) (by decide) ?_ (by first | assumption | omega)); intro D' l' h' k' e' a' F' N' l1; (rw [(by assumption : Txt.split _ _ = _)] at e'); (rw [e'] at a'); clear e'; (try k_lt l1)))
local macro_rules | `(tactic| walk_at "call builtin:str.lstrip") => `(tactic| (k_here; (refine KXw.lstrip (by assumption) (by assumption) ?_); intro _ _))
local macro_rules | `(tactic| walk_at "call builtin:str.partition") => `(tactic| (k_here; (refine KXpa.partition (by k_asm) (by k_asm) (by decide) (by assumption) (by assumption) (by assumption) (by assumption) ?_); intro D' _ _ _ _ _ F' N' l1; (try k_lt l1)))
section
variable {prog : Program} {w : World} {A : Around} {E : Value → Shared → Prop} {s : Shared} {K : Frag} {C L : Addr} {h₀ : Heap} {m : Str → Option Value}
theorem truthy_cls {Q : Bool → Shared → Prop} (F : Fr h₀ L s.heap m) (X₀ : K.In h₀) (hs : specialIn K (.ref C) "__bool__" = some none) (hl : specialIn K (.ref C) "__len__" = some none) (h : Q true s) :
    wpAny (model prog w) A (truthy (.ref C)) Q E s := by
  have X := X₀.keeps F.keep
  unfold truthy
  refine wpAny_bind (m := callSpecial? (.ref C) (Str.ofString "__bool__")) (wpAny_bind ((looks_specialIn X hs).here (wpAny_pure ?_)))
  refine wpAny_bind ((looks_specialIn X hl).here ?_)
  exact wpAny_pure h
theorem ne_same {a : Int} {t u : Tok} {Q : Value → Shared → Prop} (h : Q (.bool false) s) : wpAny (model prog w) A (compareOp .NotEq (.int a t) (.int a u)) Q E s := by
  have z : (a != a) = false := by simp
  exact ne_int (by rw [z]; exact h)
theorem News.offs {tl news : List (Addr × Obj)} {h : Heap} (N : News h₀ L h news) (fr : ∀ q ∈ tl, h.get? q.1 = none) : ∀ q ∈ tl, ∀ p ∈ news, p.1 ≠ q.1 := by
  intro q hq p hp e
  have a := (N p hp).1
  rw [e, fr q hq] at a
  cases a
theorem strs_short {l : List (Str × Tok)} {xs : List Str} {c : Nat} (hs : StrsAre (strValues l) xs) (hc : xs.length ≤ c) : (strValues l).length ≤ c := by rw [hs.length]; exact hc
end
local macro_rules | `(tactic| walk_at "truthy ref") => `(tactic| (k_here; (with_reducible show wpAny _ _ (truthy (Value.ref 394)) _ _ _); k_dflt (refine' truthy_cls ?a ?b ?c ?d ?_; (case a => k_asm); (case b => k_asm); (case c => k_is); (case d => k_is); k_whole)))
local macro_rules | `(tactic| walk_at "compareOp NotEq int int") => `(tactic| (k_here; refine' ne_same ?_; (try dsimp only)))
local macro_rules | `(tactic| walk_at "call ref") => `(tactic| (k_here; (with_reducible show wpAny _ _ (call (Value.ref 394) _) _ _ _); k_dflt (
  (refine' Con.use (xdr_spec _ _ _ _ _ _ _ _ ?l1 ?l2) ?B ?F ?X ?N ?T ?hk ?ho ?d ?u ?_);
  (case B => k_asm); (case F => k_asm); (case X => k_asm); (case N => k_asm); (case T => k_asm); (case hk => rfl); (case ho => exact List.forall_mem_cons.2 ⟨by k_mem, fun _ h => nomatch h⟩); (case d => first | omega | ktr_room | (simp only [Around.deeper, Around.in1]; omega)); (case u => first | omega | (simp only [Around.deeper, Around.in1]; omega)); (case l1 => exact Nat.lt_of_le_of_lt (strs_short (by assumption) (by assumption)) (by decide)); (case l2 => (rw [List.size_toArray, sizeLine_eq]; exact Nat.le_trans (strs_short (by assumption) (by assumption)) (by decide))); k_whole; intro r tl h' tk' F' N' fr hr; obtain ⟨x', dx', d', k1', k2', k3', nd', n', hr1, hr2⟩ := hr; subst hr1 hr2; have fr2 := News.offs (by assumption) fr; clear fr; rw [List.cons_append, List.cons_append, List.cons_append, List.nil_append] at N'; (try dsimp only); (try k_sweep))))
theorem parse_spec (w : World) (x n0 tl : Str) (hs : x.length ≤ sizeLine) (e1 : Txt.lstrip x = x) (e2 : (Txt.partition x "*").1 = n0) (e3 : (Txt.partition x "*").2.1 = "*") (e4 : (Txt.partition x "*").2.2 = tl) (n : Str) (hs0 : n0.length ≤ sizeLine) (hsn : n.length ≤ sizeLine) (f1 : Txt.slice n0 none (some 1) = "$") (f2 : Txt.slice n0 (some 1) none = n) (f3 : Txt.slice n none (some 1) = "I") (f4 : Txt.slice n none (some 4) = "IIXD") (f5 : Txt.slice n (some 4) (some 6) = "R,") (f6 : Txt.slice n none (some 5) = "IIXDR") (f7 : Txt.slice n (some 5) (some 6) = ",")
  (hst : tl.length ≤ sizeLine) (g1 : Txt.slice tl none (some 2) = tl) (g2 : Txt.slice tl (some 2) none = "") (g3 : Txt.stripChars tl "0123456789ABCDEFabcdef" = "") (g4 : tl.length = 2) (J : Str) (i1 : Txt.slice n none (some 6) = "IIXDR,") (i2 : Txt.slice n (some 6) none = J) (hn1 : 0 ≤ xorI (KStt.codes n)) (hn2 : xorI (KStt.codes n) < 128) (hasc : Asc n) (htl : tl = hexOf (xorI (KStt.codes n))) (xs : List Str) (hsJ : J.length + 2 ≤ sizeLine) (j1 : Txt.split J "," = xs) (tx : Tok) (kd : Addr) (ko : Obj) (hko : ko.IsDictOf (PySem.strKind PW w) [(("XDR" : Str), .ref 394)]) (hkl : (kd == sysModules) = false) (hxl : xs.length ≤ 1000) : Con w 20 300 (.ref 124) [.str x tx, .ref kd, .bool true] [(kd, ko)] (fun r tl => ∃ x dx d k1 k2 k3 nd n u1 u2 vs, r = .ref x ∧ StrsAre vs xs ∧ tl = [(x, instObj 394 dx), (dx, dictOf (sDict w k1 k2 k3 u1 u2 d) nd), (d, listOf vs.toArray n)]) := by
  intro loose mean mg mb dp un gd cn cs ca ccd cl outer A₀ base h₀ L m news s Q E B F X N T hk ho hdp hun hret
  have N1 : News h₀ L s.heap [(kd, ko)] := fun p hp => N p (ho p hp)
  refine wpAny_call ?_
  k_dflt (refine' code_own (own := [(kd, ko)]) (binds := [(("line" : Str), .str x tx), (("kinds" : Str), .ref kd), (("check" : Str), .bool true)]) ?k1 ?k2 ?k3 ?k4 ?k5 ?kA ?kF ?kK ?k6 ?k7 ?k8 ?kB ?k9 ?_ ?c2 ?c3 ?c4 ?c5; (case kA => exact rfl); (case kF => exact rfl); (case kK => assumption); (case k1 => k_asm); (case k2 => k_asm); (case k3 => k_asm); (case k4 => k_asm); (case k5 => k_asm); (case k6 => k_is); (case k7 => k_is); (case k8 => ktr_room); (case kB => first | exact BindsTo.of_eq rfl | exact binds_K (by k_in) rfl (by k_is) rfl rfl rfl); (case c5 => decide); (case k9 => exact locs rfl); (case c2 => exact rfl); (case c3 => exact rfl); (case c4 => exact rfl); k_whole)
  intro g' L' h' hg' hL' FG' F' N' hlt' B' X' T'
  (try dsimp only)
  (try k_fold)
  k_steps
  rename Fr h₀ L _ _ => kF
  rename News h₀ L _ _ => kN
  rename News g' L' _ (_ :: _ :: _ :: _ :: _) => Ng
  rename Fr g' L' _ _ => Fg
  rename ∀ q : Addr × Obj, _ → ∀ p : Addr × Obj, _ → _ => fr2
  rename StrsAre _ xs => hxs
  have sub : ∀ {P : Addr × Obj → Prop} {a b c d e f g h i k : Addr × Obj}, (∀ p ∈ [a, b, c, d, e, f, g, h, i, k], P p) → ∀ p ∈ [a, b, c] ++ [k], P p := by
    intro P a b c d e f g h i k H p hp
    have hp : p ∈ [a, b, c, k] := hp
    refine H p ?_
    simp only [List.mem_cons, List.not_mem_nil, or_false] at hp ⊢
    rcases hp with hp | hp | hp | hp <;> simp [hp]
  refine hret _ [_, _, _] _ _ kF (con_back (tl := [_, _, _]) N hg' Fg (sub kN) ho) (con_fresh (tl := [_, _, _]) hg' (sub Ng) fun q hq p hp => ?_) ⟨_, _, _, _, _, _, _, _, _, _, _, rfl, hxs, rfl⟩
  cases List.mem_singleton.mp hp
  exact fr2 q hq (kd, ko) (by k_mem)
end Mine
end

section
namespace Mine
theorem resetParseL : True := by
  k_with_none
  w_top off
  trivial
theorem parse_line (w : World) {xs : List Str} (hx : ∀ x ∈ xs, x ∈ words7) (hn : xs ≠ []) (hl : xs.length ≤ 18) (tx : Tok) (kd : Addr) (ko : Obj) (hko : ko.IsDictOf (PySem.strKind PW w) [(("XDR" : Str), .ref 394)]) (hkl : (kd == sysModules) = false) :
    Con w 20 300 (.ref 124) [.str (lineOf xs) tx, .ref kd, .bool true] [(kd, ko)] (fun r tl => ∃ x dx d k1 k2 k3 nd n u1 u2 vs, r = .ref x ∧ StrsAre vs xs ∧ tl = [(x, instObj 394 dx), (dx, dictOf (sDict w k1 k2 k3 u1 u2 d) nd), (d, listOf vs.toArray n)]) := by
  have len := text_len hx hl
  have xr := text_xor hx
  have hh := hexAll xr.1 xr.2
  have ld : (Str.ofString "$" ++ textOf xs).length = 1 + (textOf xs).length := by rw [Str.length_append]; rfl
  have lh : (hexT xs).length = 2 := hh.1
  have pt := line_part hx
  refine parse_spec w (lineOf xs) (Str.ofString "$" ++ textOf xs) (hexT xs) ?_ (line_lstrip xs) (by rw [pt]) (by rw [pt]) (by rw [pt]) (textOf xs) ?_ ?_ (line_f1 xs) (line_f2 xs) (line_f3 xs) (line_f4 xs) (line_f5 xs) (line_f6 xs) (line_f7 xs)
    ?_ hh.2.1 hh.2.2.1 hh.2.2.2 lh (Txt.join "," xs) (line_i1 xs) (line_i2 xs) xr.1 xr.2 (text_asc hx) rfl xs ?_ (line_split hx hn) tx kd ko hko hkl (by omega)
  all_goals (rw [sizeLine_eq]; omega)
end Mine
end

section
set_option maxHeartbeats 8000000
namespace Mine
local macro_rules | `(tactic| walk_at "none 0") => `(tactic| fail)
theorem resetL2 : True := by
  k_with_none
  w_top off
  trivial
theorem fillL2 : PySem.Challenge.rw_dg5011_01 = PySem.Challenge.rw_dg5011_01 ∧ hd.heap_39 = hd.heap_39 := by
  k_fill
  exact ⟨rfl, rfl⟩
/-- the law's own statements, as they stand in the heap's written part -/
noncomputable def fnAt (P : Params) (a : Addr) : Option FuncData := match (hd.heap_39 P).lookup a with
  | some ⟨_, _, .func fd, _⟩ => some fd
  | _ => none
noncomputable def bodyAt (P : Params) (a : Addr) : List Stmt := match fnAt P a with
  | some fd => (match fd.body with | .stmts b => b | _ => [])
  | none => []
def forBody : Stmt → List Stmt
  | .For _ _ b _ _ => b
  | _ => []
noncomputable def turnBody (P : Params) : List Stmt := forBody ((bodyAt P 423).getD 4 (.Pass default))
noncomputable def lawScope (P : Params) : Option Scope := match fnAt P 423 with
  | some { scope := sc, .. } => some sc
  | none => none
abbrev upd (x : Str) (v : Value) (m : Str → Option Value) : Str → Option Value := fun y => if y = x then some v else m y
abbrev drawOf (ns : List Int) (k : Int) : Int := ns.getD k.toNat 0
section
variable {prog : Program} {w : World} {A : Around} {E : Value → Shared → Prop} {s : Shared}
theorem ints_getD : ∀ {vs : List Value} {ns : List Int}, IntsAre vs ns → ∀ k : Nat, k < ns.length → ∃ t, vs[k]? = some (.int (ns.getD k 0) t)
  | vs, ns, hi, k, hk => by
    obtain ⟨a, t, e, hv⟩ := IntsAre.at hi k _ (List.getElem?_eq_getElem (hi.length ▸ hk))
    refine ⟨t, ?_⟩
    rw [List.getElem?_eq_getElem (hi.length ▸ hk), e, List.getD_eq_getElem?_getD, hv]
    rfl
theorem i_item {value slice : PySem.Expr} {l : Addr} {vs : List Value} {ns : List Int} {k : Int} {u : Tok} {Q : Value → Shared → Prop} (hl : s.heap.IsList l vs.toArray) (hi : IntsAre vs ns) (h0 : 0 ≤ k) (hk : k < (ns.length : Int)) (hn : ns.length < 2 ^ 62) (h : ∀ t, Q (.int (drawOf ns k) t) s)
    (hs : subscripted slice false (.ref l) (.int k u) = operate [.ref l, .int k u] (getItem (.ref l) (.int k u)) := by with_unfolding_all rfl) :
    wpAny (model prog w) A (subscriptTail value slice (.ref l) (.int k u)) Q E s := by
  obtain ⟨t, e⟩ := ints_getD hi k.toNat (by omega)
  exact item_litK hl h0 (by omega) e (h t) hs
end
local macro_rules | `(tactic| walk_at "subscriptTail") => `(tactic| (k_here; (with_reducible show wpAny _ _ (subscriptTail _ _ (Value.ref _) (Value.int _ _)) _ _ _); (with_unfolding_all refine' i_item ?k1 ?k2 ?k3 ?k4 ?k5 ?_ ?k6; (case k1 => is_list); (case k2 => assumption); (case k3 => omega); (case k4 => omega); (case k5 => omega); (case k6 => with_unfolding_all rfl); k_whole; intro _)))

theorem st0 (w : World) {st : Stmt} {cs : Scope} (hst : (turnBody w.params)[0]? = some st) (hcs : lawScope w.params = some cs)
  (loose : List Str) (mean : ExcName → Option Value) (mg mb : Str → Option Value) (dp un : Nat) (gd : Option (List Code)) (L fa cA cD dr : Addr) (cd : Value) (h₀ : Heap) (m : Str → Option Value) (made : List (Addr × Obj)) (s : Shared) (Q : Flow → Shared → Prop) (E : Value → Shared → Prop)
  (oA oD : Obj) (drs : List Value) (nd : Nat) (ns : List Int) (at' : Int) (t : Tok)
  (F : Fr h₀ L s.heap m) (X : (hd.heap_39 w.params).In h₀) (N : News h₀ L s.heap ((cA, oA) :: (cD, oD) :: (dr, listOf drs.toArray nd) :: made)) (T : Top hd.view_39 loose mean mg mb h₀)
  (hA : oA.data = .cell (some (.int at' t))) (hD : oD.data = .cell (some (.ref dr))) (hI : IntsAre drs ns) (hl : ns.length = 21) (ha0 : 0 ≤ at') (ha2 : at' ≤ 2)
  (hq : ∀ h' tk' t', Fr h₀ L h' (upd "size" (.int ((drawOf ns (7 * at') + 9 * at').fmod 19) t') m) → News h₀ L h' ((cA, oA) :: (cD, oD) :: (dr, listOf drs.toArray nd) :: made) → Q .next { s with heap := h', toks := tk' }) :
  wpAny (model PySem.Challenge.pw_dg5011_01 w) (ktrTop dp un gd "law" cs L fa cd [("at", cA), ("draw", cD)] []) (exec st (envX "law" cs L fa cd [("at", cA), ("draw", cD)])) Q E s := by
  cases hst
  cases hcs
  (try k_fold)
  k_steps
  exact hq _ _ _ (by assumption) (by assumption)
end Mine
end

section
set_option maxHeartbeats 8000000
namespace Mine
local macro_rules | `(tactic| walk_at "none 0") => `(tactic| fail)
local macro_rules | `(tactic| walk_at "none 1") => `(tactic| fail)
local macro_rules | `(tactic| walk_at "none 2") => `(tactic| fail)
theorem resetL3 : True := by
  k_with_none
  w_top off
  trivial
theorem fillL3 : PySem.Challenge.rw_dg5011_01 = PySem.Challenge.rw_dg5011_01 ∧ hd.heap_39 = hd.heap_39 := by
  k_fill
  exact ⟨rfl, rfl⟩
section
variable {prog : Program} {w : World} {A : Around} {h₀ : Heap} {L : Addr} {m : Str → Option Value} {env : Env} {elt : PySem.Expr} {x : Str} {scope : Scope} {cl : List (Str × Addr)} {news : List (Addr × Obj)}
theorem comp_turns {s : Shared} {S : List (Addr × Obj) → Prop} {P : Nat → Value → Prop} {Fin : List Value → List (Addr × Obj) → Prop} {n : Nat} (g : Nat → Str) (hS : S news)
    (turn : ∀ i v I oI C oC D m₂ ys h tk (E' : Value → Shared → Prop), i < n → P i v → LCg.NsObj oC m₂ → m₂ x = some v → Fr h₀ L h m → News h₀ L h ((I, oI) :: (C, oC) :: (D, LCg.lst ys) :: news) → LCg.Off3 I C D news → ((@Ne Nat I C) ∧ (@Ne Nat I D) ∧ (@Ne Nat C D)) →
      wpAny (model prog w) A (eval elt (compEnvC scope cl C env)) (fun y s' => ∃ h' tk' t', s' = { s with heap := h', toks := tk' } ∧ Fr h₀ L h' m ∧ News h₀ L h' ((I, oI) :: (C, oC) :: (D, LCg.lst ys) :: news) ∧ y = .str (g i) t') E' { s with heap := h, toks := tk })
    (fin : ∀ ys, StrsAre ys ((List.range n).map g) → Fin ys news) : LCg.CompRest prog w A h₀ L m env elt x scope cl s S P Fin n 0 [] news := by
  have key : ∀ (j i : Nat) (ys : List Value), i + j = n → StrsAre ys ((List.range i).map g) → LCg.CompRest prog w A h₀ L m env elt x scope cl s S P Fin j i ys news := by
    intro j
    induction j with
    | zero =>
      intro i ys hi hy
      have e : i = n := by omega
      subst e
      exact LCg.CompRest.zero (fin ys hy)
    | succ j ih =>
      intro i ys hi hy
      refine LCg.CompRest.succ ?_
      intro v I oI C oC D m₂ h tk E' hv hC hx F N off ne
      refine wpAny_mono (turn i v I oI C oC D m₂ ys h tk E' (by omega) hv hC hx F N off ne) (fun y s₂ hq => ?_) fun _ _ e => e
      obtain ⟨h', tk', t', e, F', N', hy'⟩ := hq
      subst e hy'
      refine ⟨h', tk', news, rfl, F', N', off, hS, ?_⟩
      refine ih (i + 1) _ (by omega) ?_
      rw [List.range_succ, List.map_append]
      simpa using kct_snoc hy
  exact key n 0 [] (by omega) .nil
end
theorem wpAny_abs {α : Type} {M : Model} {A : Around} {tr : Sem α} {Q : α → Shared → Prop} {E : Value → Shared → Prop} {s : Shared} (h : ∀ Q' : α → Shared → Prop, (∀ y s', Q y s' → Q' y s') → wpAny M A tr Q' E s) : wpAny M A tr Q E s := h _ fun _ _ z => z
def wordAt (ns : List Int) (at' : Int) (i : Nat) : Str := words7.getD (((drawOf ns (7 * at' + 1 + (i : Int).fmod 6)) + i).fmod 7).toNat Str.empty
theorem off1_mem {D : Addr} : ∀ {l : List (Addr × Obj)}, LCg.Off1 D l → ∀ p ∈ l, @Ne Nat p.1 D
  | [], _, _, h => nomatch h
  | _ :: _, x, p, h => by
    rcases List.mem_cons.mp h with rfl | h
    · exact x.1
    · exact off1_mem x.2 p h
theorem rangeSmallF : ∀ n : Fin 19, Builtin.Range.small 0 ((n.val : Nat) : Int) 1 = true ∧ Builtin.Range.rangeSize 0 ((n.val : Nat) : Int) 1 = ((((n.val : Nat) : Int).toNat : Nat) : Int) := by decide +kernel
theorem rangeSmall {n : Int} (h0 : 0 ≤ n) (h1 : n ≤ 18) : Builtin.Range.small 0 n 1 = true ∧ Builtin.Range.rangeSize 0 n 1 = ((n.toNat : Nat) : Int) := by
  obtain ⟨t, rfl⟩ : ∃ t : Fin 19, n = ((t.val : Nat) : Int) := ⟨⟨n.toNat, by omega⟩, by dsimp only; omega⟩
  exact rangeSmallF t
local macro_rules | `(tactic| walk_at "my_steps") => `(tactic| repeat' (first | (k_unfold; (try dsimp only)) | (k_end; wrow_close) | (walk1; (try dsimp only)) | (dsimp only; walk1) | (leave1; walk_say "STEP leave1"; try dsimp only) | fail "no step"))
local macro_rules | `(tactic| walk_at "subscriptTail") => `(tactic| (k_here; (with_reducible show wpAny _ _ (subscriptTail _ _ (Value.ref _) (Value.int _ _)) _ _ _); (with_unfolding_all refine' i_item ?k1 ?k2 ?k3 ?k4 ?k5 ?_ ?k6; (case k1 => is_list); (case k2 => assumption); (case k3 => omega); (case k4 => omega); (case k5 => omega); (case k6 => with_unfolding_all rfl); k_whole; intro _)))
theorem st1 (w : World) {st : Stmt} {cs : Scope} (hst : (turnBody w.params)[1]? = some st) (hcs : lawScope w.params = some cs)
  (loose : List Str) (mean : ExcName → Option Value) (mg mb : Str → Option Value) (dp un : Nat) (gd : Option (List Code)) (L fa cA cD dr : Addr) (cd : Value) (h₀ : Heap) (m : Str → Option Value) (made : List (Addr × Obj)) (s : Shared) (Q : Flow → Shared → Prop) (E : Value → Shared → Prop)
  (oA oD : Obj) (drs : List Value) (nd : Nat) (ns : List Int) (at' size : Int) (t t2 : Tok)
  (F : Fr h₀ L s.heap (upd "size" (.int size t2) m)) (X : (hd.heap_39 w.params).In h₀) (N : News h₀ L s.heap ((cA, oA) :: (cD, oD) :: (dr, listOf drs.toArray nd) :: made)) (T : Top hd.view_39 loose mean mg mb h₀)
  (hA : oA.data = .cell (some (.int at' t))) (hD : oD.data = .cell (some (.ref dr))) (hI : IntsAre drs ns) (hl : ns.length = 21) (ha0 : 0 ≤ at') (ha2 : at' ≤ 2) (hs0 : 0 ≤ size) (hs1 : size ≤ 18) (hdp : dp + 20 < recursionLimit) (hun : un + 200 < cLine)
  (hq : ∀ h' tk' D ys, Fr h₀ L h' (upd "row" (.ref D) (upd "size" (.int size t2) m)) → News h₀ L h' ((D, LCg.lst ys) :: (cA, oA) :: (cD, oD) :: (dr, listOf drs.toArray nd) :: made) → StrsAre ys ((List.range size.toNat).map (wordAt ns at')) → (∀ p ∈ (cA, oA) :: (cD, oD) :: (dr, listOf drs.toArray nd) :: made, @Ne Nat p.1 D) → Q .next { s with heap := h', toks := tk' }) :
  wpAny (model PySem.Challenge.pw_dg5011_01 w) (ktrTop dp un gd "law" cs L fa cd [("at", cA), ("draw", cD)] []) (exec st (envX "law" cs L fa cd [("at", cA), ("draw", cD)])) Q E s := by
  cases hst
  cases hcs
  (try k_fold)
  k_dflt (refine LCg.Assign_ListComp_U (F₀ := by k_asm) (by rfl) (by with_unfolding_all rfl) (by with_unfolding_all rfl) (by decide) (by rfl) (by decide) (by rfl) (by rfl) (by rfl) ?_)
  refine wpAny_mono (Q := fun xv s' => ∃ r t u v h' tk', xv = .ref r ∧ s' = { s with heap := h', toks := tk' } ∧ Fr h₀ L h' (upd "size" (.int size t2) m) ∧ News h₀ L h' ((cA, oA) :: (cD, oD) :: (dr, listOf drs.toArray nd) :: made) ∧ IsRange h' r 0 size 1 t u v) ?_ (fun xv s' hx => ?_) (fun _ _ e => e)
  · refine wpAny_abs fun Q' hQ' => ?_
    walk_at "my_steps"
    exact hQ' _ _ ⟨_, _, _, _, _, _, rfl, rfl, by assumption, by assumption, by assumption⟩
  · obtain ⟨r, t, u, v, h', tk', rfl, rfl, F', N', hr⟩ := hx
    have rg := rangeSmall hs0 hs1
    refine LCg.CompSrc.range rfl F' N' hr (n := size.toNat) ?_ ?_ ?_ ?_
    · exact rg.1
    · exact rg.2
    · rw [sizeLine_eq]; omega
    intro g'
    (try dsimp only)
    refine comp_turns (wordAt ns at') trivial ?_ ?_
    · intro i v I oI C oC D m₂ ys h tk E' hi hP hC hx F2 N2 off ne
      obtain ⟨t3, rfl⟩ := hP
      rw [Int.zero_add] at hx
      (try dsimp only)
      refine wpAny_abs fun Q' hQ' => ?_
      walk_at "my_steps"
      all_goals (
        refine hQ' _ _ ⟨_, _, _, rfl, by assumption, by assumption, congrArg (fun x => Value.str x _) (?_ : _ = wordAt ns at' i)⟩
        unfold wordAt drawOf
        rename _ = _ => kE
        rw [kE]
        rfl)
    · intro ys hy D h tk F3 N3 off
      exact hq h tk D ys F3 N3 hy (off1_mem off)
end Mine
end

section
set_option maxHeartbeats 8000000
namespace Mine
local macro_rules | `(tactic| walk_at "none 0") => `(tactic| fail)
local macro_rules | `(tactic| walk_at "none 1") => `(tactic| fail)
local macro_rules | `(tactic| walk_at "none 2") => `(tactic| fail)
local macro_rules | `(tactic| walk_at "none 3") => `(tactic| fail)
local macro_rules | `(tactic| walk_at "none 4") => `(tactic| fail)
local macro_rules | `(tactic| walk_at "none 5") => `(tactic| fail)
theorem resetL4 : True := by
  k_with_none
  w_top off
  trivial
theorem fillL4 : PySem.Challenge.rw_dg5011_01 = PySem.Challenge.rw_dg5011_01 ∧ hd.heap_39 = hd.heap_39 := by
  k_fill
  exact ⟨rfl, rfl⟩
local macro_rules | `(tactic| walk_at "my_steps") => `(tactic| repeat' (first | (k_unfold; (try dsimp only)) | (k_end; wrow_close) | (walk1; (try dsimp only)) | (dsimp only; walk1) | (leave1; walk_say "STEP leave1"; try dsimp only) | fail "no step"))
theorem words_sum : ∀ {xs : List Str}, (∀ x ∈ xs, x ∈ words7) → (xs.map (·.length)).sum ≤ xs.length * 4
  | [], _ => Nat.le_refl _
  | x :: r, h => by
    have a := (word_signs x (h x List.mem_cons_self)).2
    have b := words_sum (xs := r) fun y hy => h y (List.mem_cons_of_mem _ hy)
    simp only [List.map_cons, List.sum_cons, List.length_cons]
    omega
theorem join_row {prog : Program} {w : World} {A : Around} {E : Value → Shared → Prop} {s : Shared} {D : Addr} {vs : List Value} {xs : List Str} {t : Tok} {Q : Value → Shared → Prop} (hl : s.heap.IsList D vs.toArray) (hy : StrsAre vs xs) (hx : ∀ x ∈ xs, x ∈ words7) (h18 : xs.length ≤ 18)
    (h : ∀ t' k, Q (.str (Txt.join "," xs) t') { s with toks := k }) : wpAny (model prog w) A (call (.builtin "str.join") [.str "," t, .ref D]) Q E s := by
  refine join_list hl (by simpa using hy) ?_ h
  have := words_sum hx
  have e : (Str.ofString ",").length = 1 := rfl
  rw [e]; omega
local macro_rules | `(tactic| walk_at "call builtin:str.join") => `(tactic| (k_here; k_dflt (refine' join_row ?a ?b ?c ?d ?_; (case a => is_list); (case b => assumption); (case c => assumption); (case d => assumption); k_whole); intro _ _))
local macro_rules | `(tactic| walk_at "binaryOp Add str str") => `(tactic| (k_here; k_dflt (refine' add_str ?a ?b; (case b => assumption); (case a => intro _ _))))
theorem st2 (w : World) {st : Stmt} {cs : Scope} (hst : (turnBody w.params)[2]? = some st) (hcs : lawScope w.params = some cs)
  (loose : List Str) (mean : ExcName → Option Value) (mg mb : Str → Option Value) (dp un : Nat) (gd : Option (List Code)) (L fa cA cD D : Addr) (cd : Value) (h₀ : Heap) (m : Str → Option Value) (rest : List (Addr × Obj)) (s : Shared) (Q : Flow → Shared → Prop) (E : Value → Shared → Prop)
  (ys : List Value) (xs : List Str) (hy : StrsAre ys xs) (hx : ∀ x ∈ xs, x ∈ words7) (hl : xs.length ≤ 18)
  (F : Fr h₀ L s.heap (upd "row" (.ref D) m)) (X : (hd.heap_39 w.params).In h₀) (N : News h₀ L s.heap ((D, LCg.lst ys) :: rest)) (T : Top hd.view_39 loose mean mg mb h₀)
  (hq : ∀ h' tk' t', Fr h₀ L h' (upd "text" (.str (textOf xs) t') (upd "row" (.ref D) m)) → News h₀ L h' ((D, LCg.lst ys) :: rest) → Q .next { s with heap := h', toks := tk' }) :
  wpAny (model PySem.Challenge.pw_dg5011_01 w) (ktrTop dp un gd "law" cs L fa cd [("at", cA), ("draw", cD)] []) (exec st (envX "law" cs L fa cd [("at", cA), ("draw", cD)])) Q E s := by
  have hlen := text_len hx hl
  have hz1 : (Str.ofString "IIXDR,").length + (Txt.join "," xs).length ≤ sizeLine := by
    have e : (Str.ofString "IIXDR,").length = 6 := rfl
    rw [e, sizeLine_eq]; omega
  cases hst
  cases hcs
  (try k_fold)
  walk_at "my_steps"
  exact hq _ _ _ (by assumption) (by assumption)
theorem ne_of_size {xs : List Str} {size : Int} (h : size = xs.length) (h0 : 0 < size) : xs ≠ [] := by
  rintro rfl
  simp at h; omega
local macro_rules | `(tactic| walk_at "call ref") => `(tactic| (k_here; (with_reducible show wpAny _ _ (call (Value.ref 404) _) _ _ _); k_dflt (
  (refine' Con.use (sum_spec _ _ _ ?asc) ?B ?F ?X ?N ?T ?hk ?ho ?d ?u ?_); (case asc => assumption); (case B => k_asm); (case F => k_asm); (case X => k_asm); (case N => k_asm); (case T => k_asm); (case hk => rfl); (case d => first | omega | ktr_room | (simp only [Around.deeper, Around.in1]; omega)); (case u => first | omega | (simp only [Around.deeper, Around.in1]; omega)); (case ho => intro _ h; cases h); k_whole; intro r tl h' tk' F' N' fr hr; obtain ⟨_, _, hr1, t', hr2⟩ := hr; subst hr1 hr2; clear fr; rw [List.nil_append] at N'; (try dsimp only); (try k_sweep))))
local macro_rules | `(tactic| walk_at "call ref") => `(tactic| (k_here; (with_reducible show wpAny _ _ (call (Value.ref 124) _) _ _ _); k_dflt (
  (refine' Con.use (parse_line _ ?hx ?hn ?hl _ _ _ ?hko ?hkl) ?B ?F ?X ?N ?T ?hk ?ho ?d ?u ?_); (case hx => assumption); (case hn => exact ne_of_size (by assumption) (by omega)); (case hl => assumption); (case hko => assumption); (case hkl => assumption); (case B => k_asm); (case F => k_asm); (case X => k_asm); (case N => k_asm); (case T => k_asm); (case hk => rfl); (case d => first | omega | ktr_room | (simp only [Around.deeper, Around.in1]; omega)); (case u => first | omega | (simp only [Around.deeper, Around.in1]; omega)); (case ho => exact List.forall_mem_cons.2 ⟨by k_mem, fun _ h => nomatch h⟩); k_whole; intro r tl h' tk' F' N' fr hr; obtain ⟨x', dx', d', k1', k2', k3', nd', n', u1', u2', vs', hr1, hvs, hr2⟩ := hr; subst hr1 hr2; have fr2 := News.offs (by assumption) fr; clear fr; rw [List.cons_append, List.cons_append, List.cons_append, List.nil_append] at N'; (try dsimp only); (try k_sweep))))
local macro_rules | `(tactic| walk_at "call ref") => `(tactic| (k_here; (with_reducible show wpAny _ _ (call (Value.ref 394) _) _ _ _); k_dflt (
  (refine' Con.use (xdr_spec _ _ _ _ _ _ _ _ ?l1 ?l2) ?B ?F ?X ?N ?T ?hk ?ho ?d ?u ?_); (case B => k_asm); (case F => k_asm); (case X => k_asm); (case N => k_asm); (case T => k_asm); (case hk => rfl); (case d => first | omega | ktr_room | (simp only [Around.deeper, Around.in1]; omega)); (case u => first | omega | (simp only [Around.deeper, Around.in1]; omega)); (case ho => exact List.forall_mem_cons.2 ⟨by k_mem, fun _ h => nomatch h⟩); (case l1 => (have hyl := StrsAre.length (by assumption)); omega); (case l2 => ((have hyl := StrsAre.length (by assumption)); rw [List.size_toArray, sizeLine_eq]; omega)); k_whole; intro r tl h' tk' F' N' fr hr; obtain ⟨x', dx', d', k1', k2', k3', nd', n', hr1, hr2⟩ := hr; subst hr1 hr2; have fr2 := News.offs (by assumption) fr; clear fr; rw [List.cons_append, List.cons_append, List.cons_append, List.nil_append] at N'; (try dsimp only); (try k_sweep))))
theorem st3 (w : World) {st : Stmt} {cs : Scope} (hst : (turnBody w.params)[3]? = some st) (hcs : lawScope w.params = some cs)
  (loose : List Str) (mean : ExcName → Option Value) (mg mb : Str → Option Value) (dp un : Nat) (gd : Option (List Code)) (L fa cA cD D kd : Addr) (cd : Value) (A₀ : Around) (h₀ : Heap) (m : Str → Option Value) (rest : List (Addr × Obj)) (s : Shared) (Q : Flow → Shared → Prop) (E : Value → Shared → Prop)
  (ys : List Value) (xs : List Str) (hy : StrsAre ys xs) (hx : ∀ x ∈ xs, x ∈ words7) (hl : xs.length ≤ 18) (oA ko : Obj) (at' size : Int) (ta t1 t2 : Tok) (hA : oA.data = .cell (some (.int at' ta))) (hsz : size = xs.length) (hko : ko.IsDictOf (PySem.strKind PW w) [(("XDR" : Str), .ref 394)]) (hkl : (kd == sysModules) = false) (hdp : dp + 40 < recursionLimit) (hun : un + 600 < cLine)
  (B : Below A₀ h₀ [] h₀) (F : Fr h₀ L s.heap (upd "text" (.str (textOf xs) t1) (upd "row" (.ref D) (upd "size" (.int size t2) (upd "kinds" (.ref kd) m))))) (X : (hd.heap_39 w.params).In h₀) (N : News h₀ L s.heap ((D, LCg.lst ys) :: (cA, oA) :: (kd, ko) :: rest)) (T : Top hd.view_39 loose mean mg mb h₀)
  (hq : ∀ h' tk' x dx d k1 k2 k3 nd n u1 u2 vs, StrsAre vs xs → Fr h₀ L h' (upd "s" (.ref x) (upd "text" (.str (textOf xs) t1) (upd "row" (.ref D) (upd "size" (.int size t2) (upd "kinds" (.ref kd) m))))) → News h₀ L h' ((x, instObj 394 dx) :: (dx, dictOf (sDict w k1 k2 k3 u1 u2 d) nd) :: (d, listOf vs.toArray n) :: (D, LCg.lst ys) :: (cA, oA) :: (kd, ko) :: rest) →
    (∀ q ∈ [(x, instObj 394 dx), (dx, dictOf (sDict w k1 k2 k3 u1 u2 d) nd), (d, listOf vs.toArray n)], ∀ p ∈ (D, LCg.lst ys) :: (cA, oA) :: (kd, ko) :: rest, p.1 ≠ q.1) → Q .next { s with heap := h', toks := tk' }) :
  wpAny (model PySem.Challenge.pw_dg5011_01 w) (ktrTop dp un gd "law" cs L fa cd [("at", cA), ("draw", cD)] []) (exec st (envX "law" cs L fa cd [("at", cA), ("draw", cD)])) Q E s := by
  have hlen := text_len hx hl
  have z1 : (Str.ofString "$").length + (textOf xs).length ≤ sizeLine := by
    have e : (Str.ofString "$").length = 1 := rfl
    rw [e, sizeLine_eq]; omega
  have z2 : (Str.ofString "$" ++ textOf xs).length + (Str.ofString "*").length ≤ sizeLine := by
    have e : (Str.ofString "$").length = 1 := rfl
    have e2 : (Str.ofString "*").length = 1 := rfl
    rw [Str.length_append, e, e2, sizeLine_eq]; omega
  have z3 : (Str.ofString "$" ++ textOf xs ++ Str.ofString "*").length + (hexOf (xorI (KStt.codes (textOf xs)))).length ≤ sizeLine := by
    have e : (Str.ofString "$" ++ textOf xs ++ Str.ofString "*").length + (hexOf (xorI (KStt.codes (textOf xs)))).length = (lineOf xs).length := by
      unfold lineOf hexT; rw [Str.length_append (Str.ofString "$" ++ textOf xs ++ Str.ofString "*")]
    rw [e, sizeLine_eq]; omega
  have hasc := text_asc hx
  cases hst
  cases hcs
  (try k_fold)
  walk_at "my_steps"
  all_goals (refine' hq _ _ _ _ _ _ _ _ _ _ _ _ _ ?s ?F ?N ?o; (case N => assumption); (case F => assumption); (case s => assumption); (case o => assumption))
end Mine
end

section
set_option maxHeartbeats 8000000
namespace Mine
local macro_rules | `(tactic| walk_at "none 0") => `(tactic| fail)
local macro_rules | `(tactic| walk_at "none 1") => `(tactic| fail)
local macro_rules | `(tactic| walk_at "none 2") => `(tactic| fail)
local macro_rules | `(tactic| walk_at "none 3") => `(tactic| fail)
local macro_rules | `(tactic| walk_at "none 4") => `(tactic| fail)
local macro_rules | `(tactic| walk_at "none 5") => `(tactic| fail)
local macro_rules | `(tactic| walk_at "none 6") => `(tactic| fail)
local macro_rules | `(tactic| walk_at "none 7") => `(tactic| fail)
local macro_rules | `(tactic| walk_at "none 8") => `(tactic| fail)
local macro_rules | `(tactic| walk_at "none 9") => `(tactic| fail)
local macro_rules | `(tactic| walk_at "none 10") => `(tactic| fail)
local macro_rules | `(tactic| walk_at "none 11") => `(tactic| fail)
local macro_rules | `(tactic| walk_at "none 12") => `(tactic| fail)
theorem resetNumT : True := by
  k_with_none
  w_top off
  trivial
theorem fillNumT : PySem.Challenge.rw_dg5011_01 = PySem.Challenge.rw_dg5011_01 ∧ hd.heap_39 = hd.heap_39 := by
  k_fill
  exact ⟨rfl, rfl⟩
local macro_rules | `(tactic| walk_at "my_steps") => `(tactic| repeat' (first | (k_unfold; (try dsimp only)) | (k_end; wrow_close) | (walk1; (try dsimp only)) | (dsimp only; walk1) | (leave1; walk_say "STEP leave1"; try dsimp only) | fail "no step"))
local macro_rules | `(tactic| walk_at "getAttr ref") => `(tactic| (k_here; k_dflt (
  (refine' hk_own ?k1 ?k2 ?k3 ?k4 ?k5 ?k6 ?k7 ?k8 ?k9 ?_; (case k1 => k_asm); (case k2 => k_asm); (case k3 => k_inst); (case k4 => k_is); (case k5 => k_is); (case k6 => k_is); (case k7 => k_is); (case k8 => k_get); (case k9 => k_handed); k_whole))))
local macro_rules | `(tactic| walk_at "call builtin:len") => `(tactic| (k_here; (with_reducible show wpAny _ _ (call (Value.builtin "len") [Value.ref _]) _ _ _); (with_unfolding_all refine' len_list ?k1 ?k2 ?_; (case k1 => is_list); (case k2 => (simp only [List.size_toArray]; omega)); k_whole); (try simp only [List.size_toArray])))
theorem num_code (w : World) (x dx d : Addr) (vs : List Value) (nn nd : Nat) (k1 k2 k3 : Tok) (u1 u2 : Value) (hlen : vs.length < 2 ^ 20)
  (loose : List Str) (mean : ExcName → Option Value) (mg mb : Str → Option Value) (dp un : Nat) (gd : Option (List Code)) (cn : Str) (cs : Scope) (a : Addr) (ccd : Value) (cl : List (Str × Addr)) (outer : List Env) (A₀ : Around) (base h₀ : Heap) (L : Addr) (m : Str → Option Value) (news : List (Addr × Obj)) (s : Shared)
  (Q E : Value → Shared → Prop)
  (B : Below A₀ base outer h₀) (F : Fr h₀ L s.heap m) (X : (hd.heap_39 w.params).In h₀) (N : News h₀ L s.heap news)
  (T : Top hd.view_39 loose mean mg mb h₀) (hk : cs.kind = .function) (ho : ∀ p ∈ [(x, instObj 394 dx), (dx, dictOf (sDict w k1 k2 k3 u1 u2 d) nd), (d, listOf vs.toArray nn)], p ∈ news) (hdp : dp + 10 < recursionLimit) (hun : un + 100 < cLine)
  (hok : ∀ t h' tk', Fr h₀ L h' m → News h₀ L h' news → Q (.int ((vs.length : Int).fdiv 4) t) { s with heap := h', toks := tk' }) :
  codeAny (model PySem.Challenge.pw_dg5011_01 w) (ktrTop dp un gd cn cs L a ccd cl outer) (.call (.ref 383) ⟨[.ref x], []⟩) (fun r s' => match r with | .ok (.ret v) => Q v s' | .ok _ => False | .error e => E e s') s := by
  have N1 : News h₀ L s.heap [(x, instObj 394 dx), (dx, dictOf (sDict w k1 k2 k3 u1 u2 d) nd), (d, listOf vs.toArray nn)] := fun p hp => N p (ho p hp)
  k_dflt (refine' code_own (own := [(x, instObj 394 dx), (dx, dictOf (sDict w k1 k2 k3 u1 u2 d) nd), (d, listOf vs.toArray nn)]) (binds := [(("self" : Str), .ref x)]) ?k1 ?k2 ?k3 ?k4 ?k5 ?kA ?kF ?kK ?k6 ?k7 ?k8 ?kB ?k9 ?_ ?c2 ?c3 ?c4 ?c5; (case kA => exact rfl); (case kF => exact rfl); (case kK => first | exact rfl | assumption); (case k1 => k_asm); (case k2 => k_asm); (case k3 => k_asm); (case k4 => k_asm); (case k5 => k_asm); (case k6 => k_is); (case k7 => k_is); (case k8 => ktr_room); (case kB => exact BindsTo.of_eq rfl); (case c5 => decide); (case k9 => exact locs rfl); (case c2 => exact rfl); (case c3 => exact rfl); (case c4 => exact rfl); k_whole)
  intro g' L' h' hg' hL' FG' F' N' hlt' B' X' T'
  (try dsimp only)
  (try k_fold)
  walk_at "my_steps"
  refine hok _ _ _ (by assumption) ?_
  exact con_back (tl := []) N hg' (by assumption) (by assumption) ho
end Mine
end

section
set_option maxHeartbeats 8000000
namespace Mine
theorem resetGetOk : True := by
  k_with_none
  w_top off
  trivial
theorem fillGetOk : PySem.Challenge.rw_dg5011_01 = PySem.Challenge.rw_dg5011_01 ∧ hd.heap_39 = hd.heap_39 := by
  k_fill
  exact ⟨rfl, rfl⟩
local macro_rules | `(tactic| walk_at "my_steps") => `(tactic| repeat' (first | (k_unfold; (try dsimp only)) | (k_end; wrow_close) | (walk1; (try dsimp only)) | (dsimp only; walk1) | (leave1; walk_say "STEP leave1"; try dsimp only) | fail "no step"))
local macro_rules | `(tactic| walk_at "getAttr ref") => `(tactic| (k_here; k_dflt (
  (refine' hk_own ?k1 ?k2 ?k3 ?k4 ?k5 ?k6 ?k7 ?k8 ?k9 ?_; (case k1 => k_asm); (case k2 => k_asm); (case k3 => k_inst); (case k4 => k_is); (case k5 => k_is); (case k6 => k_is); (case k7 => k_is); (case k8 => k_get); (case k9 => k_handed); k_whole))))
theorem get_code (w : World) (x dx d : Addr) (vs : List Value) (a1 b1 c1 e1 : Value) (nn nd : Nat) (k1 k2 k3 : Tok) (u1 u2 : Value) (i : Int) (ti : Tok) (hz : (slicePick vs.toArray (some (i * 4)) (some (i * 4 + 4)) none).toList = [a1, b1, c1, e1]) (hlen : vs.length < 2 ^ 20) (hsz : vs.toArray.size ≤ sizeLine)
  (loose : List Str) (mean : ExcName → Option Value) (mg mb : Str → Option Value) (dp un : Nat) (gd : Option (List Code)) (cn : Str) (cs : Scope) (a : Addr) (ccd : Value) (cl : List (Str × Addr)) (outer : List Env) (A₀ : Around) (base h₀ : Heap) (L : Addr) (m : Str → Option Value) (news : List (Addr × Obj)) (s : Shared)
  (Q E : Value → Shared → Prop)
  (B : Below A₀ base outer h₀) (F : Fr h₀ L s.heap m) (X : (hd.heap_39 w.params).In h₀) (N : News h₀ L s.heap news)
  (T : Top hd.view_39 loose mean mg mb h₀) (hk : cs.kind = .function) (ho : ∀ p ∈ [(x, instObj 394 dx), (dx, dictOf (sDict w k1 k2 k3 u1 u2 d) nd), (d, listOf vs.toArray nn)], p ∈ news) (hdp : dp + 10 < recursionLimit) (hun : un + 100 < cLine)
  (hok : ∀ y dy h' tk', Fr h₀ L h' m → News h₀ L h' ([(y, tdObj dy [a1, b1, c1, e1]), (dy, emptyDict)] ++ news) → (∀ q ∈ [(y, tdObj dy [a1, b1, c1, e1]), (dy, emptyDict)], s.heap.get? q.1 = none) → Q (.ref y) { s with heap := h', toks := tk' }) :
  codeAny (model PySem.Challenge.pw_dg5011_01 w) (ktrTop dp un gd cn cs L a ccd cl outer) (.call (.ref 391) ⟨[.ref x, .int i ti], []⟩) (fun r s' => match r with | .ok (.ret v) => Q v s' | .ok _ => False | .error e => E e s') s := by
  have N1 : News h₀ L s.heap [(x, instObj 394 dx), (dx, dictOf (sDict w k1 k2 k3 u1 u2 d) nd), (d, listOf vs.toArray nn)] := fun p hp => N p (ho p hp)
  k_dflt (refine' code_own (own := [(x, instObj 394 dx), (dx, dictOf (sDict w k1 k2 k3 u1 u2 d) nd), (d, listOf vs.toArray nn)]) (binds := [(("self" : Str), .ref x), (("i" : Str), .int i ti)]) ?k1 ?k2 ?k3 ?k4 ?k5 ?kA ?kF ?kK ?k6 ?k7 ?k8 ?kB ?k9 ?_ ?c2 ?c3 ?c4 ?c5; (case kA => exact rfl); (case kF => exact rfl); (case kK => first | exact rfl | assumption); (case k1 => k_asm); (case k2 => k_asm); (case k3 => k_asm); (case k4 => k_asm); (case k5 => k_asm); (case k6 => k_is); (case k7 => k_is); (case k8 => ktr_room); (case kB => exact BindsTo.of_eq rfl); (case c5 => decide); (case k9 => exact locs rfl); (case c2 => exact rfl); (case c3 => exact rfl); (case c4 => exact rfl); k_whole)
  intro g L' h' hg' hL' FG' F' N' hlt' B' X' T'
  (try dsimp only)
  (try k_fold)
  k_steps
  dsimp only at *
  rename News g L' _ (_ :: _ :: _ :: _ :: _) => kN
  refine star_seq (T := "list") (its := slicePick vs.toArray (some (i * 4)) (some (i * 4 + 4)) none) (n := 0) (o := listOf (slicePick vs.toArray (some (i * 4)) (some (i * 4 + 4)) none) 0) (by assumption) kN (List.Mem.head _) rfl rfl (Or.inl rfl) hz (by rw [← Array.length_toList, hz]; exact Nat.le_of_ble_eq_true rfl) (fun h₃ F₃ N₃ => ⟨X'.keeps F₃.keep, ?_⟩)
  have N4 : News g L' h₃ [(x, instObj 394 dx), (dx, dictOf (sDict w k1 k2 k3 u1 u2 d) nd), (d, listOf vs.toArray nn)] := fun p hp => N₃ p (.tail _ hp)
  refine (td_new w a1 b1 c1 e1 loose mean mg mb (dp + 1) (un + 3) gd _ _ _ _ [] (envX cn cs L a ccd cl :: outer) (ktrTop dp un gd cn cs L a ccd cl outer) base g L' _ [(x, instObj 394 dx), (dx, dictOf (sDict w k1 k2 k3 u1 u2 d) nd), (d, listOf vs.toArray nn)] _ _ _ B' F₃ X' N4 T' rfl (fun p hp => nomatch hp) (by omega) (by omega) ?_)
  intro r tl h₄ tk₄ F₄ N₄ fr₄ ⟨y, dy, hr, htl⟩
  subst hr htl
  refine leaveK_ F₄ N₄ fun FF NN => ?_
  refine hok y dy _ _ FF (con_back N hg' F₄ NN ho) (con_fresh hg' N₄ fun q hq p hp e => ?_)
  have f1 := fr₄ q hq
  rw [← e, (N4 p hp).1] at f1
  cases f1
end Mine
end

section
open PySem.AutoSeq1 (wpAny_loadPart')
set_option maxHeartbeats 4000000
namespace Mine
local macro_rules | `(tactic| walk_at "none 0") => `(tactic| fail)
local macro_rules | `(tactic| walk_at "none 1") => `(tactic| fail)
local macro_rules | `(tactic| walk_at "none 2") => `(tactic| fail)
section
variable {prog : Program} {w : World} {A : Around} {E : Value → Shared → Prop} {s : Shared}
/-- the next item of a tuple's iterator, as enumerate asks for it -/
theorem nextOf_tup_item {it t : Addr} {i : Nat} {items} {x : Value} {Q : Value → Shared → Prop} (hit : s.heap.IsTupleIter it t i) (ht : s.heap.IsTuple t items) (hx : items[i]? = some x)
    (hQ : ∀ h', h'.IsTupleIter it t (i + 1) → Heap.SameBut it s.heap h' → Q x { s with heap := h' }) : wpAny (model prog w) A (Builtin.SmallTypes.nextOf (.ref it)) Q E s := by
  obtain ⟨o, ho, hc, hd⟩ := id hit
  obtain ⟨ol, hol, _, nl, hdl⟩ := ht
  unfold Builtin.SmallTypes.nextOf
  refine wpAny_bind (wpAny_callSpecial?_slot (name := Str.ofString "__next__") hit.typeIs F.slot_tuple_iterator_next (wpAny_call_entry F.slot_tuple_iterator_next hit.typeIs F.entry_tuple_iterator_next ?_ (F.args_tuple_iterator_next_1 _)))
  show wpAny _ _ (field (.ref it) 0 >>= _) _ _ s
  refine wpAny_bind (wpAny_field ho hd (x := .ref t) rfl ?_)
  show wpAny _ _ (if (Value.ref t == Value.none) = true then _ else _) _ _ s
  rw [if_neg (show ¬ ((Value.ref t == Value.none) = true) from Bool.false_ne_true)]
  show wpAny _ _ (field (.ref it) 1 >>= _) _ _ s
  refine wpAny_bind (wpAny_field ho hd (x := .int i 0) rfl ?_)
  show wpAny _ _ (seqItems? (.ref t) >>= _) _ _ s
  refine wpAny_bind (wpAny_seqItems hol hdl ?_)
  simp only [Int.toNat_natCast, hx]
  refine wpAny_bind (wpAny_setField ho hd (by simp) (wpAny_pure ⟨x, rfl, wpAny_pure (hQ _ ?_ (Heap.SameBut.update ..))⟩))
  exact ⟨_, Heap.get?_update_self _ ho (Obj.isFreed_of_fields (Obj.data_mapFields hd _)), (Obj.cls_mapFields ..).trans hc, by
    rw [Obj.data_mapFields hd]; simp [rawInt]⟩
theorem nextOf_tup_end {it t : Addr} {i : Nat} {items} {Q : Value → Shared → Prop} (hh : A.handled = none) (hit : s.heap.IsTupleIter it t i) (ht : s.heap.IsTuple t items) (hx : items[i]? = none)
    (hE : ∀ h' e, Heap.ExtBut it s.heap h' → (∃ o, h'.get? e = some o ∧ o.cls = .type "StopIteration") → E (.ref e) { s with heap := h' }) : wpAny (model prog w) A (Builtin.SmallTypes.nextOf (.ref it)) Q E s := by
  obtain ⟨o, ho, hc, hd⟩ := id hit
  obtain ⟨ol, hol, _, nl, hdl⟩ := ht
  unfold Builtin.SmallTypes.nextOf
  refine wpAny_bind (wpAny_callSpecial?_slot (name := Str.ofString "__next__") hit.typeIs F.slot_tuple_iterator_next (wpAny_call_entry F.slot_tuple_iterator_next hit.typeIs F.entry_tuple_iterator_next ?_ (F.args_tuple_iterator_next_1 _)))
  show wpAny _ _ (field (.ref it) 0 >>= _) _ _ s
  refine wpAny_bind (wpAny_field ho hd (x := .ref t) rfl ?_)
  show wpAny _ _ (if (Value.ref t == Value.none) = true then _ else _) _ _ s
  rw [if_neg (show ¬ ((Value.ref t == Value.none) = true) from Bool.false_ne_true)]
  show wpAny _ _ (field (.ref it) 1 >>= _) _ _ s
  refine wpAny_bind (wpAny_field ho hd (x := .int i 0) rfl ?_)
  show wpAny _ _ (seqItems? (.ref t) >>= _) _ _ s
  refine wpAny_bind (wpAny_seqItems hol hdl ?_)
  simp only [Int.toNat_natCast, hx]
  refine wpAny_bind (wpAny_rule (wpAny_bind (wpAny_setField ho hd (by simp) ?_)))
  show wpAny _ _ (newExc (.type "StopIteration") [] >>= _) _ _ _
  refine wpAny_bind ?_
  simp only [newExc, newTuple]
  refine wpAny_bind (wpAny_newObj_type ?_ (by size_fits))
  refine wpAny_bind (m := firstArgMember _ _) (wpAny_of_eq (a := Value.none) (by first | rfl | (simp only [firstArgMember]; rfl)) ?_)
  refine wpAny_newObj_type ?_ (by size_fits)
  simp only [raiseNew]
  refine wpAny_bind (wpAny_handled ?_)
  first | rw [show A.in1.handled = none from hh] | rw [hh]
  refine wpAny_bind (wpAny_pure (wpAny_throw ?_))
  exact hE _ _ (((Heap.SameBut.update ..).extBut.push _).push _) ⟨_, Heap.get?_push_size _ rfl, rfl⟩
theorem drawsTup (hh : A.handled = none) (it t : Addr) (hne : t ≠ it) (items : Array Value) :
    Draws prog w A it [it, t] items.size (fun i v => items[i]? = some v) (fun i h => h.IsTupleIter it t i ∧ h.IsTuple t items) where
  live := fun _ _ st => let ⟨o, ho, _⟩ := st.1; ⟨o, ho⟩
  frame := fun _ _ _ st hk => ⟨let ⟨o, ho, r⟩ := st.1; ⟨o, hk it (by simp) o ho, r⟩, let ⟨o, ho, r⟩ := st.2; ⟨o, hk t (by simp) o ho, r⟩⟩
  item := fun i s Q E hi st hQ => by
    refine nextOf_tup_item st.1 st.2 (x := items[i]) (by simp [hi]) fun h' hit' hs' => ?_
    exact hQ _ h' s.toks (by simp [hi]) ⟨hit', st.2.extBut hs'.extBut hne⟩ hs'
  done := fun s Q E st hE => nextOf_tup_end hh st.1 st.2 (by simp) hE
theorem meets_enum_tup (l : Addr) (items : Array Value) (n : Nat) (dct : Option Addr) (sl : Array (Option Value)) :
    Meets (Builtin.«enumerate.__new__» ⟨[.type "enumerate", .ref l], []⟩) (fun _ R s => s.heap.get? l = some { cls := .type "tuple", dict := dct, data := .seq items n, slots := sl } ∧
      R (.ok (.ret (.ref (s.heap.push { cls := .type "tuple_iterator", data := .fields #[.ref l, .int 0 0] }).objs.size)))
        { s with heap := (s.heap.push { cls := .type "tuple_iterator", data := .fields #[.ref l, .int 0 0] }).push { cls := .type "enumerate", data := .fields #[.none, .bool false, .ref s.heap.objs.size, rawInt 0, .none, .none] } }) :=
  .of_wp fun prog w A R s h => by
    obtain ⟨hp, g, d, tk, os⟩ := s; obtain ⟨hl, h⟩ := h
    have hsub := sub_enumerate
    have hL : Heap.IsTuple (Shared.heap ⟨hp, g, d, tk, os⟩) l items := ⟨_, hl, rfl, n, rfl⟩
    wp_walk using wpAny_loadPart' hl
    refine wpAny_stack_any fun st => wpAny_pure ?_
    split
    · rename_i c _ _ _ _ _
      cases (c == Value.type "enumerate")
      · wp_walk using wpAny_loadPart' hl, wpAny_pyIter_tuple hL
        exact ⟨_, rfl, h⟩
      · wp_walk using wpAny_loadPart' hl, wpAny_pyIter_tuple hL
        exact ⟨_, rfl, h⟩
    · wp_walk using wpAny_loadPart' hl, wpAny_pyIter_tuple hL
      exact ⟨_, rfl, h⟩
theorem call_enum_tup {l : Addr} {items : Array Value} {Q : Value → Shared → Prop} (hL : s.heap.IsTuple l items)
    (h : ∀ h', IsEnum h' (s.heap.objs.size + 1) s.heap.objs.size 0 .none → h'.IsTupleIter s.heap.objs.size l 0 → h'.objs.size = s.heap.objs.size + 2 →
      (∀ b o, s.heap.get? b = some o → h'.get? b = some o) → Q (.ref (s.heap.objs.size + 1)) { s with heap := h' }) :
    wpAny (model prog w) A (call (.type "enumerate") [.ref l]) Q E s := by
  obtain ⟨⟨c, dct, dt, sl⟩, hl, hc, n, hd⟩ := hL
  replace hc : c = .type "tuple" := hc
  replace hd : dt = .seq items n := hd
  subst hc hd
  refine callType_new F.called_enumerate (by decide) (F.typeCall_enumerate_1 _) (F.newCall_enumerate_1 _) (fun obj => F.args_object_init_2 obj _) F.entry_enumerate_new
    (meets_enum_tup l items n dct sl) ⟨hl, ?_⟩
  have hz : (s.heap.push { cls := .type "tuple_iterator", data := .fields #[.ref l, .int 0 0] }).objs.size = s.heap.objs.size + 1 := Heap.size_push ..
  show _ ∧ _
  rw [hz]
  have he : IsEnum ((s.heap.push { cls := .type "tuple_iterator", data := .fields #[.ref l, .int 0 0] }).push
      { cls := .type "enumerate", data := .fields #[.none, .bool false, .ref s.heap.objs.size, rawInt 0, .none, .none] }) (s.heap.objs.size + 1) s.heap.objs.size 0 .none := by
    have := Heap.get?_push_size (s.heap.push { cls := .type "tuple_iterator", data := .fields #[.ref l, .int 0 0] })
      (o := { cls := .type "enumerate", data := .fields #[.none, .bool false, .ref s.heap.objs.size, rawInt 0, .none, .none] }) rfl
    rw [hz] at this; exact this
  refine ⟨⟨_, he, rfl⟩, h _ he ⟨_, Heap.get?_push_of_some _ (Heap.get?_push_size _ rfl), rfl, rfl⟩ (by rw [Heap.size_push, hz]) fun b o x => Heap.get?_push_of_some _ (Heap.get?_push_of_some _ x)⟩
end
end Mine
end

section
set_option maxHeartbeats 4000000
namespace Mine
theorem resetDComp : True := by
  k_with_none
  w_top off
  trivial
def HeadOk (k0 : Str) (i : Nat) (kvs : List (Str × Value)) : Prop := (i = 0 → kvs = []) ∧ (0 < i → ∃ t rest, kvs = (k0, Value.int 0 t) :: rest) ∧ kvs.length ≤ i
theorem headOk_step {k0 key : Str} {i : Nat} {kvs : List (Str × Value)} {tok : Tok} (h : HeadOk k0 i kvs) (hk : i = 0 → key = k0) (hk2 : 0 < i → key ≠ k0) : HeadOk k0 (i + 1) (stored kvs key (.int (i : Nat) tok)) := by
  obtain ⟨h1, h2, h3⟩ := h
  refine ⟨fun e => by omega, fun _ => ?_, ?_⟩
  · by_cases hi : i = 0
    · subst hi
      rw [h1 rfl, hk rfl]
      exact ⟨tok, [], rfl⟩
    · obtain ⟨t, rest, rfl⟩ := h2 (by omega)
      have hne := hk2 (by omega)
      unfold stored
      split
      · refine ⟨t, rest.map (fun kv => if kv.1 = key then (kv.1, Value.int (i : Nat) tok) else kv), ?_⟩
        rw [List.map_cons, if_neg (fun e => hne e.symm)]
      · exact ⟨t, _, rfl⟩
  · have := stored_length_le kvs key (.int (i : Nat) tok)
    omega
section
variable {prog : Program} {w : World} {A : Around} {E : Value → Shared → Prop} {R : Result → Shared → Prop} {s : Shared}
theorem compTurn_pair {kx vx target iter : Expr} {scope : Scope} {pos : Pos} {it : Value} {D : Addr} {env : Env}
    (h : wpAny (model prog w) A (pyNext it) (fun r s₁ => match r with
      | none => R (.ok .next) s₁
      | some v => wpAny (model prog w) A (letOwnedTupleGo target it v) (fun _ s₂ => wpAny (model prog w) A (assign target env v) (fun _ s₃ => wpAny (model prog w) A (eval kx env) (fun kv s₄ => wpAny (model prog w) A (eval vx env) (fun vv s₅ => wpAny (model prog w) A (dictSet D kv vv)
          (fun _ s₆ => codeAny (model prog w) A (.compLoop (.DictComp kx vx [⟨target, iter, [], 0⟩] scope pos) 0 it (.ref D) env) R s₆) (fun _ _ => False) s₅) (fun _ _ => False) s₄) (fun _ _ => False) s₃) (fun _ _ => False) s₂) (fun _ _ => False) s₁) (fun _ _ => False) s) :
    codeAny (model prog w) A (.compLoop (.DictComp kx vx [⟨target, iter, [], 0⟩] scope pos) 0 it (.ref D) env) R s := by
  refine codeAny_of_tree ?_
  show wpAny _ A ((compTurn (.DictComp kx vx [⟨target, iter, [], 0⟩] scope pos) 0 it (.ref D) env).onRaise (fun x => do noteFrame x env; theTreesLotGoes x)) _ _ s
  refine wpAny_onRaise (wpAny_mono (E := fun _ _ => False) (Q := fun fin s' => match fin with | .done f => R (.ok f) s' | .again c' => c'.quiet = true ∧ codeAny (model prog w) A c' R s') ?_ (fun _ _ x => x) fun _ _ x => x.elim)
  rw [compTurn_dict]
  refine wpAny_bind (wpAny_standAt (wpAny_bind (wpAny_mono h (fun r s₁ h₁ => ?_) fun _ _ x => x)))
  cases r with
  | none => exact wpAny_pure h₁
  | some v =>
    refine wpAny_bind (wpAny_mono h₁ (fun _ s₂ h₂ => wpAny_bind (wpAny_mono h₂ (fun _ s₃ h₃ => ?_) fun _ _ x => x)) fun _ _ x => x)
    refine wpAny_bind (wpAny_pure ?_)
    exact wpAny_bind (wpAny_bind (wpAny_mono h₃ (fun kv s₄ h₄ => wpAny_bind (wpAny_holding (wpAny_mono h₄ (fun vv s₅ h₅ => wpAny_bind (wpAny_standAt (wpAny_holding (wpAny_mono h₅ (fun _ s₆ h₆ => wpAny_pure ⟨rfl, h₆⟩) fun _ _ h' => h')))) fun _ _ h' => h'))) fun _ _ h' => h'))
structure InvD (prog : Program) (w : World) (e it t C D : Addr) (items : Array Value) (k0 : Str) (s : Shared) (i : Nat) (s' : Shared) : Prop where
  at_ : ∃ h tk m kvs, s' = { s with heap := h, toks := tk } ∧ ((∃ old, IsEnum h e it (i : Nat) old) ∧ h.IsTupleIter it t i ∧ h.IsTuple t items) ∧ h.DictOf (PySem.strKind prog w) D kvs ∧ h.Ns C m ∧ HeadOk k0 i kvs ∧ (∀ b o, b ∉ [e, it, C, D] → s.heap.get? b = some o → h.get? b = some o)
theorem compLoop_enum {kx iter : Expr} {x x₂ : Str} {px px₂ pv tp pos : Pos} {tk : Nat} {scope : Scope} {env : Env} {e it t C D : Addr} {items : Array Value} {k0 : Str} (hh : A.handled = none)
    (hx : scope.names.lookup x = some .local) (hx₂ : scope.names.lookup x₂ = some .local) (hxx : x ≠ x₂) (hkind : scope.kind = .function) (hxd : (x == ("__debug__" : Str)) = false)
    (d1 : e ≠ it) (d2 : t ≠ e) (d3 : t ≠ it) (c1 : C ≠ e) (c2 : C ≠ it) (c3 : C ≠ t) (q1 : D ≠ e) (q2 : D ≠ it) (q3 : D ≠ t) (q4 : D ≠ C) (hsz : items.size ≤ 1000)
    (hkey : ∀ i v (s₂ : Shared) m₂, items[i]? = some v → s₂.heap.Ns C m₂ → m₂ x₂ = some v → (∀ b o, b ∉ [e, it, C, D] → s.heap.get? b = some o → s₂.heap.get? b = some o) →
      wpAny (model prog w) A (eval kx (compEnvC scope [] C env)) (fun kv s₃ => (∃ key tk', kv = .str key tk' ∧ (i = 0 → key = k0) ∧ (0 < i → key ≠ k0)) ∧ Keeps s₂ s₃) (fun _ _ => False) s₂)
    (hR : ∀ h tk m kvs, h.Ns C m → h.DictOf (PySem.strKind prog w) D kvs → HeadOk k0 items.size kvs → (∀ b o, b ∉ [e, it, C, D] → s.heap.get? b = some o → h.get? b = some o) → R (.ok .next) { s with heap := h, toks := tk }) :
    ∀ j i s', i + j = items.size → InvD prog w e it t C D items k0 s i s' →
      codeAny (model prog w) A (.compLoop (.DictComp kx (.Name x pv) [⟨.Tuple [.Name x px, .Name x₂ px₂] tk tp, iter, [], 0⟩] scope pos) 0 (.ref e) (.ref D) (compEnvC scope [] C env)) R s'
  | j, i, s', hj, ⟨h, tk₁, m, kvs, e0, hst, hD, hn, hH, hk⟩ => by
    subst e0
    have W := WalksT.enumerateD (drawsTup (prog := prog) (w := w) (A := A.in1) (by exact hh) it t d3 items) e d1 (by simp [d1, d2.symm]) (by simp)
    refine compTurn_pair ?_
    cases j with
    | zero =>
      have ei : i = items.size := by omega
      subst ei
      refine W.done _ _ _ hst fun h' tk' hk' => ?_
      have kp : ∀ b o, b ≠ e → b ≠ it → h.get? b = some o → h'.get? b = some o := fun b o n1 n2 ee => hk' b o (by simp [n1, n2]) ee
      exact hR h' tk' m kvs (hn.at' fun o ee => kp _ o c1 c2 ee) (hD.at fun o ee => kp _ o q1 q2 ee) hH fun b o hb ee => kp b o (fun z => hb (by simp [z])) (fun z => hb (by simp [z])) (hk b o hb ee)
    | succ j =>
      have hi : i < items.size := by omega
      refine W.item i _ _ _ hi hst fun T vals h₂ tk₂ hP hTge hT hMid hk₂ => ?_
      obtain ⟨tt, xv, hxv, rfl⟩ := hP
      have aT := W.apart i T h₂ hMid
      refine W.go _ _ _ i T _ _ _ hMid fun h₃ hst₃ hk₃ => ?_
      have kp : ∀ b o, b ≠ e → b ≠ it → h.get? b = some o → h₃.get? b = some o := fun b o n1 n2 ee => hk₃ b o (by simp [n1, n2]) (hk₂ b o (by simp [n1, n2]) ee)
      have hT3 : IsTup h₃ T #[.int (i : Nat) tt, xv] := by
        obtain ⟨o, ho, r⟩ := hT
        exact ⟨o, hk₃ T o aT ho, r⟩
      refine assign_Tuple_tuple hh hT3 rfl rfl fun h₅ he => ?_
      have he' : ∀ b o, h₃.get? b = some o → h₅.get? b = some o := fun b o ee => he b o (Nat.ne_of_lt (Heap.lt_size ee)) ee
      have hn₅ : h₅.Ns C m := hn.at' fun o ee => he' _ o (kp _ o c1 c2 ee)
      refine assignInOrder_cons (wpAny_assign_Name (wpAny_storeName_local (lookup_relabel_local hx) hn₅ (fun h₆ hn₆ hs₆ => ?_) (by simp [compEnvC, relabel, hkind])))
      refine assignInOrder_cons (wpAny_assign_Name (wpAny_storeName_local (lookup_relabel_local hx₂) hn₆ (fun h₇ hn₇ hs₇ => ?_) (by simp [compEnvC, relabel, hkind])))
      refine assignInOrder_nil ?_
      dsimp only at hn₆ hs₆ hn₇ hs₇ ⊢
      have up : ∀ b o, b ≠ C → h₃.get? b = some o → h₇.get? b = some o := fun b o nb ee => hs₇.extBut b o nb (hs₆.extBut b o nb (he' b o ee))
      have keep₇ : ∀ b o, b ∉ [e, it, C, D] → s.heap.get? b = some o → h₇.get? b = some o := fun b o hb ee =>
        up b o (fun z => hb (by simp [z])) (kp b o (fun z => hb (by simp [z])) (fun z => hb (by simp [z])) (hk b o hb ee))
      have hst₇ : ((∃ old, IsEnum h₇ e it ((i + 1 : Nat) : Int) old) ∧ h₇.IsTupleIter it t (i + 1) ∧ h₇.IsTuple t items) := W.frame _ _ _ hst₃ fun b hb o ee => up b o (fun z => by
        rcases List.mem_cons.mp hb with hb | hb
        · exact c1 (z.symm.trans hb)
        · rcases List.mem_cons.mp hb with hb | hb
          · exact c2 (z.symm.trans hb)
          · exact c3 (z.symm.trans (List.mem_singleton.mp hb))) ee
      have hD₇ : h₇.DictOf (PySem.strKind prog w) D kvs := hD.at fun o ee => up _ o q4 (kp _ o q1 q2 ee)
      refine wpAny_mono (hkey i xv _ _ (by simpa using hxv) hn₇ (by simp) keep₇) (fun kv s₄ h₄ => ?_) fun _ _ z => z
      obtain ⟨⟨key, tkk, rfl, hk0, hk1⟩, h₈, tk₈, rfl, hk₈⟩ := h₄
      have hn₈ := hn₇.keeps hk₈
      refine wpAny_Name (wpAny_loadName_local (by simp [compEnvC, relabel, hkind]) (lookup_relabel_local hx) hn₈ (v := .int (i : Nat) tt) (by simp [hxx]) ?_) hxd
      have hkv : kvs.length ≤ sizeLine := by
        have := hH.2.2
        rw [sizeLine_eq]; omega
      refine wpAny_dictSet_pairs (knd := strKind prog w) (k := key) (hsz := hkv) (by simp [PySem.strKind, Value.isStrOf]) (hD₇.at fun o ee => hk₈ _ o ee) fun h₉ hl₉ hs₉ => ?_
      refine compLoop_enum hh hx hx₂ hxx hkind hxd d1 d2 d3 c1 c2 c3 q1 q2 q3 q4 hsz hkey hR j (i + 1) _ (by omega) ⟨h₉, _, _, _, rfl, ?_, hl₉, hn₈.sameBut hs₉ q4.symm, headOk_step hH hk0 hk1, fun b o hb ee => hs₉.extBut b o (fun z => hb (by simp [z])) (hk₈ b o (keep₇ b o hb ee))⟩
      refine W.frame _ _ _ hst₇ fun b hb o ee => hs₉.extBut b o (fun z => ?_) (hk₈ b o ee)
      rcases List.mem_cons.mp hb with hb | hb
      · exact q1 (z.symm.trans hb)
      · rcases List.mem_cons.mp hb with hb | hb
        · exact q2 (z.symm.trans hb)
        · exact q3 (z.symm.trans (List.mem_singleton.mp hb))
theorem dict_block {kx iter : Expr} {x x₂ : Str} {px px₂ pv tp pos : Pos} {tk : Nat} {scope : Scope} {env : Env} {e it t : Addr} {items : Array Value} {k0 : Str} {s₂ : Shared} {Q : Value → Shared → Prop} (hh : A.handled = none)
    (hcell : ∀ y ∈ scope.names, y.2 ≠ .cell) (hx : scope.names.lookup x = some .local) (hx₂ : scope.names.lookup x₂ = some .local) (hxx : x ≠ x₂) (hkind : scope.kind = .function) (hxd : (x == ("__debug__" : Str)) = false)
    (d1 : e ≠ it) (d2 : t ≠ e) (d3 : t ≠ it) (hsz : items.size ≤ 1000) (he : IsEnum s₂.heap e it 0 .none) (hit : s₂.heap.IsTupleIter it t 0) (ht : s₂.heap.IsTuple t items)
    (hkey : ∀ C i v (s₃ : Shared) m₂, items[i]? = some v → s₃.heap.Ns C m₂ → m₂ x₂ = some v → (∀ b o, b ∉ [e, it] → s₂.heap.get? b = some o → s₃.heap.get? b = some o) →
      wpAny (model prog w) A (eval kx (compEnvC scope [] C env)) (fun kv s₄ => (∃ key tk', kv = .str key tk' ∧ (i = 0 → key = k0) ∧ (0 < i → key ≠ k0)) ∧ Keeps s₃ s₄) (fun _ _ => False) s₃)
    (hQ : ∀ D h' tk kvs, h'.DictOf (PySem.strKind prog w) D kvs → HeadOk k0 items.size kvs → (∀ b o, b ∉ [e, it] → s₂.heap.get? b = some o → h'.get? b = some o) → Q (.ref D) { s₂ with heap := h', toks := tk }) :
    wpAny (model prog w) A newDict (fun acc s₃ => wpAny (model prog w) A (newFunctionEnv scope env.globals [] [] env.qual none .none (some env)) (fun cenv s₄ =>
      codeAny (model prog w) A (.compStart (.DictComp kx (.Name x pv) [⟨.Tuple [.Name x px, .Name x₂ px₂] tk tp, iter, [], 0⟩] scope pos) 0 (.ref e) acc { cenv with scope := relabel scope env }) (compPost (model prog w) A E none Q acc cenv.locals) s₄) E s₃) E s₂ := by
  refine wpAny_newObj_type (wpAny_newFunctionEnv hcell (by intro y hy; simp at hy) (fun h₁ hns₁ hsb₁ => ?_) hkind)
  dsimp only at hns₁ hsb₁ ⊢
  have hnew : (s₂.heap.push { cls := .type "dict", dict := none, data := .dict #[] }).DictOf (PySem.strKind prog w) s₂.heap.objs.size [] := Heap.DictOf.new s₂.heap
  generalize hH2 : s₂.heap.push { cls := .type "dict", dict := none, data := .dict #[] } = H2 at hns₁ hsb₁ hnew ⊢
  have hC : H2.objs.size = s₂.heap.objs.size + 1 := by rw [← hH2, Heap.size_push]
  have hDC : s₂.heap.objs.size ≠ H2.objs.size := by rw [hC]; exact Nat.ne_of_lt (Nat.lt_succ_self _)
  have below : ∀ b, @LT.lt Nat _ b s₂.heap.objs.size → b ≠ H2.objs.size ∧ b ≠ s₂.heap.objs.size := fun b hb => ⟨by rw [hC]; exact Nat.ne_of_lt (Nat.lt_succ_of_lt hb), Nat.ne_of_lt hb⟩
  have old : ∀ b o, s₂.heap.get? b = some o → h₁.get? b = some o := fun b o e => hsb₁.extBut b o (below b (Heap.lt_size e)).1 (Heap.get?_push_of_some _ (hH2 ▸ Heap.get?_push_of_some _ e))
  have hacc : h₁.DictOf (PySem.strKind prog w) s₂.heap.objs.size [] := hnew.at fun o e => hsb₁.extBut _ _ hDC (Heap.get?_push_of_some _ e)
  have le : @LT.lt Nat _ e s₂.heap.objs.size := Heap.lt_size he
  have li : @LT.lt Nat _ it s₂.heap.objs.size := by obtain ⟨_, z, _⟩ := hit; exact Heap.lt_size z
  have lt : @LT.lt Nat _ t s₂.heap.objs.size := by obtain ⟨_, z, _⟩ := ht; exact Heap.lt_size z
  have hst₁ : (∃ old, IsEnum h₁ e it (0 : Nat) old) ∧ h₁.IsTupleIter it t 0 ∧ h₁.IsTuple t items :=
    ⟨⟨_, old _ _ he⟩, let ⟨o, z, r⟩ := hit; ⟨o, old _ _ z, r⟩, let ⟨o, z, r⟩ := ht; ⟨o, old _ _ z, r⟩⟩
  have W := WalksT.enumerateD (drawsTup (prog := prog) (w := w) (A := A.in1) (by exact hh) it t d3 items) e d1 (by simp [d1, d2.symm]) (by simp)
  have loop : ∀ s₃ : Shared, s₃ = { s₂ with heap := h₁, toks := s₂.toks + ([] : List (Str × Value)).length } →
      codeAny (model prog w) A (.compLoop (.DictComp kx (.Name x pv) [⟨.Tuple [.Name x px, .Name x₂ px₂] tk tp, iter, [], 0⟩] scope pos) 0 (.ref e) (.ref s₂.heap.objs.size) (compEnvC scope [] H2.objs.size env))
        (compPost (model prog w) A E none Q (.ref s₂.heap.objs.size) H2.objs.size) s₃ := by
    rintro s₃ rfl
    refine compLoop_enum (C := H2.objs.size) (D := s₂.heap.objs.size) (k0 := k0) hh hx hx₂ hxx hkind hxd d1 d2 d3 (below e le).1.symm (below it li).1.symm (below t lt).1.symm (below e le).2.symm (below it li).2.symm (below t lt).2.symm hDC hsz
      (fun i v s₃ m₂ hv hn hm hk => hkey _ i v s₃ m₂ hv hn hm fun b o hb ee => hk b o (fun z => ?_) ee) ?_ items.size 0 _ (by omega)
      ⟨h₁, _, _, [], rfl, hst₁, hacc, hns₁, ⟨fun _ => rfl, fun z => absurd z (Nat.lt_irrefl _), Nat.le_refl _⟩, fun b o _ ee => old b o ee⟩
    · have := below b (Heap.lt_size ee)
      simp only [List.mem_cons, List.not_mem_nil, or_false] at z hb
      rcases z with z | z | z | z
      · exact hb (.inl z)
      · exact hb (.inr z)
      · exact this.1 z
      · exact this.2 z
    · intro h tk' m' kvs hn hD hH hk
      refine ⟨m', hn, fun h' hs' => hQ _ h' tk' kvs (hD.at fun o ee => hs'.extBut _ _ hDC ee) hH fun b o hb ee => ?_⟩
      have bl := below b (Heap.lt_size ee)
      refine hs'.extBut _ _ bl.1 (hk b o (fun z => ?_) ee)
      simp only [List.mem_cons, List.not_mem_nil, or_false] at z hb
      rcases z with z | z | z | z
      · exact hb (.inl z)
      · exact hb (.inr z)
      · exact bl.1 z
      · exact bl.2 z
  exact codeAny_compStart_dict (loop _ rfl) (W.self 0 _ _ _ hst₁ (loop _ rfl))
theorem eval_dict_enum {kx iter : Expr} {x x₂ : Str} {px px₂ pv tp pos : Pos} {tk : Nat} {scope : Scope} {env : Env} {items : Array Value} {k0 : Str} {t : Addr} {Q : Value → Shared → Prop} (hh : A.handled = none)
    (hclos : closureFor scope env = pure []) (hnames : ∀ y ∈ scope.names, y.2 = .local → scope.names.lookup y.1 = some .local)
    (hcell : ∀ y ∈ scope.names, y.2 ≠ .cell) (hx : scope.names.lookup x = some .local) (hx₂ : scope.names.lookup x₂ = some .local) (hxx : x ≠ x₂) (hkind : scope.kind = .function) (hxd : (x == ("__debug__" : Str)) = false) (hsz : items.size ≤ 1000)
    (h : wpAny (model prog w) A (eval iter env) (fun xv s₂ => ∃ e it, xv = .ref e ∧ e ≠ it ∧ t ≠ e ∧ t ≠ it ∧ IsEnum s₂.heap e it 0 .none ∧ s₂.heap.IsTupleIter it t 0 ∧ s₂.heap.IsTuple t items ∧
      (∀ C i v (s₃ : Shared) m₂, items[i]? = some v → s₃.heap.Ns C m₂ → m₂ x₂ = some v → (∀ b o, b ∉ [e, it] → s₂.heap.get? b = some o → s₃.heap.get? b = some o) →
        wpAny (model prog w) A (eval kx (compEnvC scope [] C env)) (fun kv s₄ => (∃ key tk', kv = .str key tk' ∧ (i = 0 → key = k0) ∧ (0 < i → key ≠ k0)) ∧ Keeps s₃ s₄) (fun _ _ => False) s₃) ∧
      (∀ D h' tk kvs, h'.DictOf (PySem.strKind prog w) D kvs → HeadOk k0 items.size kvs → (∀ b o, b ∉ [e, it] → s₂.heap.get? b = some o → h'.get? b = some o) → Q (.ref D) { s₂ with heap := h', toks := tk })) E s)
    (hs : ∀ x, foldedSetIterable iter env x = pure x := by intro _; rfl) :
    wpAny (model prog w) A (eval (.DictComp kx (.Name x pv) [⟨.Tuple [.Name x px, .Name x₂ px₂] tk tp, iter, [], 0⟩] scope pos) env) Q E s := by
  rw [arm_eval_DictComp]
  refine wpAny_comprehension_free (use := none) rfl hs hclos hkind hnames (wpAny_mono h (fun xv s₂ h₂ => ?_) fun _ _ z => z)
  obtain ⟨e, it, rfl, d1, d2, d3, he, hit, ht, hk, hQ⟩ := h₂
  exact wpAny_pyIter_enum he (dict_block hh hcell hx hx₂ hxx hkind hxd d1 d2 d3 hsz he hit ht hk hQ)
end
end Mine
end

section
set_option maxHeartbeats 8000000
namespace Mine
local macro_rules | `(tactic| walk_at "none 0") => `(tactic| fail)
local macro_rules | `(tactic| walk_at "none 1") => `(tactic| fail)
local macro_rules | `(tactic| walk_at "none 2") => `(tactic| fail)
local macro_rules | `(tactic| walk_at "none 3") => `(tactic| fail)
theorem resetSetF : True := by
  k_with_none
  w_top off
  trivial
theorem fillSetF : PySem.Challenge.rw_dg5011_01 = PySem.Challenge.rw_dg5011_01 ∧ hd.heap_39 = hd.heap_39 := by
  k_fill
  exact ⟨rfl, rfl⟩
local macro_rules | `(tactic| walk_at "getAttr ref") => `(tactic| (k_here; k_dflt (
  (refine' hk_own ?k1 ?k2 ?k3 ?k4 ?k5 ?k6 ?k7 ?k8 ?k9 ?_; (case k1 => k_asm); (case k2 => k_asm); (case k3 => k_inst); (case k4 => k_is); (case k5 => k_is); (case k6 => k_is); (case k7 => k_is); (case k8 => k_get); (case k9 => k_handed); k_whole))))
theorem fr_but2 {h₀ h h' : Heap} {L e it : Addr} {m : Str → Option Value} (F : Fr h₀ L h m) (hk : ∀ b o, b ∉ [e, it] → h.get? b = some o → h'.get? b = some o) (hL : L ∉ [e, it]) (he : h₀.get? e = none) (hi : h₀.get? it = none) : Fr h₀ L h' m :=
  ⟨F.ns.at' fun o ee => hk L o hL ee, fun b o ee => hk b o (fun hm => by
    rcases List.mem_cons.mp hm with hm | hm
    · rw [hm, he] at ee; cases ee
    · rw [List.mem_singleton.mp hm, hi] at ee; cases ee) (F.keep b o ee), F.above⟩
theorem news_but2 {h₀ h h' : Heap} {L e it : Addr} {news : List (Addr × Obj)} (N : News h₀ L h news) (hk : ∀ b o, b ∉ [e, it] → h.get? b = some o → h'.get? b = some o) (off : ∀ p ∈ news, p.1 ∉ [e, it]) : News h₀ L h' news :=
  fun p hp => ⟨hk _ _ (off p hp) (N p hp).1, (N p hp).2⟩
theorem field_key (P : Params) {i : Nat} {v : Value} (hv : (#[Value.ref 372, .ref 373, .ref 374, .ref 375] : Array Value)[i]? = some v) :
    ∃ a l key t1 t2, v = .ref a ∧ (hd.heap_39 P).lookup a = some { cls := .type "tuple", data := .seq #[.str l t1, .str key t2] } ∧ (i = 0 → key = "type") ∧ (0 < i → key ≠ "type") := by
  match i, hv with
  | 0, hv => cases hv; exact ⟨372, _, _, _, _, rfl, rfl, fun _ => rfl, fun z => absurd z (Nat.lt_irrefl _)⟩
  | 1, hv => cases hv; exact ⟨373, _, _, _, _, rfl, rfl, (fun z => absurd z (by decide)), (fun _ => by decide)⟩
  | 2, hv => cases hv; exact ⟨374, _, _, _, _, rfl, rfl, (fun z => absurd z (by decide)), (fun _ => by decide)⟩
  | 3, hv => cases hv; exact ⟨375, _, _, _, _, rfl, rfl, (fun z => absurd z (by decide)), (fun _ => by decide)⟩
  | n + 4, hv => simp at hv
theorem sub_field {w : World} {A : Around} {p1 p2 p3 : Pos} {kk : Nat} {scope : Scope} {env : Env} {C e it : Addr} {i : Nat} {v : Value} {s₂ s₃ : Shared} {m₂ : Str → Option Value} (X : (hd.heap_39 w.params).In s₂.heap) (he : IsEnum s₂.heap e it 0 .none) (hit : s₂.heap.IsTupleIter it 376 0)
    (hkind : scope.kind = .function) (hx : scope.names.lookup ("f" : Str) = some .local)
    (hv : (#[Value.ref 372, .ref 373, .ref 374, .ref 375] : Array Value)[i]? = some v) (hn : s₃.heap.Ns C m₂) (hm : m₂ "f" = some v) (hk : ∀ b o, b ∉ [e, it] → s₂.heap.get? b = some o → s₃.heap.get? b = some o) :
    wpAny (model PySem.Challenge.pw_dg5011_01 w) A (eval (.Subscript (.Name "f" p1) (.Constant (.int 1) kk p2) p3) (compEnvC scope [] C env)) (fun kv s₄ => (∃ key tk', kv = .str key tk' ∧ (i = 0 → key = "type") ∧ (0 < i → key ≠ "type")) ∧ Keeps s₃ s₄) (fun _ _ => False) s₃ := by
  obtain ⟨a, l, key, t1, t2, rfl, hl, h0, h1⟩ := field_key w.params hv
  have ha := X _ _ hl
  have ha3 := hk a _ (fun z => by
    rcases List.mem_cons.mp z with z | z
    · rw [z, show s₂.heap.get? e = _ from he] at ha
      exact absurd (Value.type.inj (congrArg Obj.cls (Option.some.inj ha))) (by decide)
    · obtain ⟨o, z2, z3, _⟩ := hit
      rw [List.mem_singleton.mp z, z2] at ha
      have z4 := congrArg Obj.cls (Option.some.inj ha)
      rw [z3] at z4
      exact absurd (Value.type.inj z4) (by decide)) ha
  refine Subscript_ (wpAny_Name (wpAny_loadName_local (by simp [compEnvC, relabel, hkind]) (lookup_relabel_local hx) hn hm (wpAny_Constant_int ?_)) (by decide))
  refine item_strsTu (l := [.str l t1, .str key t2]) (ys := [l, key]) ⟨_, ha3, rfl, _, rfl⟩ (.cons _ _ (.cons _ _ .nil)) (by decide) (by show (1 : Int) < 2; decide) (by decide) fun t' => ?_
  exact ⟨⟨key, t', rfl, h0, h1⟩, ⟨_, _, rfl, fun _ _ z => z⟩⟩
theorem head_value {k0 : Str} {i : Nat} {kvs : List (Str × Value)} (h : HeadOk k0 i kvs) (hi : 0 < i) : ∃ t, valueAt kvs k0 = some (.int 0 t) := by
  obtain ⟨t, rest, rfl⟩ := h.2.1 hi
  exact ⟨t, by simp [valueAt]⟩
theorem dict_item {prog : Program} {w : World} {A : Around} {E : Value → Shared → Prop} {s : Shared} {value slice : PySem.Expr} {D : Addr} {kvs : List (Str × Value)} {k : Str} {u : Tok} {v : Value} {Q : Value → Shared → Prop} (hD : s.heap.DictOf (PySem.strKind prog w) D kvs) (hv : valueAt kvs k = some v) (h : Q v { s with toks := s.toks + 1 })
    (hs : subscripted slice false (.ref D) (.str k u) = operate [.ref D, .str k u] (getItem (.ref D) (.str k u)) := by with_unfolding_all rfl) :
    wpAny (model prog w) A (subscriptTail value slice (.ref D) (.str k u)) Q E s :=
  tail_any hD.mapOf.typeIs slot_dict_getitem.lookup (wpAny_getItem_of (knd := PySem.strKind prog w) (k := k) (by simp [PySem.strKind, Value.isStrOf]) hD.mapOf hv h) hs
theorem set_code (w : World) (x dx d : Addr) (v0 : Value) (vr : List Value) (nn nd : Nat) (k1 k2 k3 : Tok) (u1 u2 : Value) (t1 t2 : Tok) (hlen : (v0 :: vr).length < 2 ^ 20) (n1 : @Ne Nat x dx) (n2 : @Ne Nat x d) (n3 : @Ne Nat dx d)
  (loose : List Str) (mean : ExcName → Option Value) (mg mb : Str → Option Value) (dp un : Nat) (gd : Option (List Code)) (cn : Str) (cs : Scope) (a : Addr) (ccd : Value) (cl : List (Str × Addr)) (outer : List Env) (A₀ : Around) (base h₀ : Heap) (L : Addr) (m : Str → Option Value) (news : List (Addr × Obj)) (s : Shared)
  (Q E : Value → Shared → Prop) (gf : Obj → List (Addr × Obj))
  (B : Below A₀ base outer h₀) (F : Fr h₀ L s.heap m) (X : (hd.heap_39 w.params).In h₀) (N : News h₀ L s.heap news)
  (T : Top hd.view_39 loose mean mg mb h₀) (hk : cs.kind = .function) (ho : ∀ p ∈ [(x, instObj 394 dx), (dx, dictOf (sDict w k1 k2 k3 u1 u2 d) nd), (d, listOf (v0 :: vr).toArray nn)], p ∈ news) (hU : UpdF d (listOf (v0 :: vr).toArray nn) news gf) (hdp : dp + 10 < recursionLimit) (hun : un + 100 < cLine)
  (hok : ∀ t nn' h' tk', Fr h₀ L h' m → News h₀ L h' (gf (listOf (.str "zz" t :: vr).toArray nn')) → Q .none { s with heap := h', toks := tk' }) :
  codeAny (model PySem.Challenge.pw_dg5011_01 w) (ktrTop dp un gd cn cs L a ccd cl outer) (.call (.ref 137) ⟨[.ref x, .str "type" t1, .str "zz" t2], []⟩) (fun r s' => match r with | .ok (.ret v) => Q v s' | .ok _ => False | .error e => E e s') s := by
  have N1 : News h₀ L s.heap [(x, instObj 394 dx), (dx, dictOf (sDict w k1 k2 k3 u1 u2 d) nd), (d, listOf (v0 :: vr).toArray nn)] := fun p hp => N p (ho p hp)
  k_dflt (refine' code_own (own := [(x, instObj 394 dx), (dx, dictOf (sDict w k1 k2 k3 u1 u2 d) nd), (d, listOf (v0 :: vr).toArray nn)]) (binds := [(("self" : Str), .ref x), (("name" : Str), .str "type" t1), (("value" : Str), .str "zz" t2)]) ?k1 ?k2 ?k3 ?k4 ?k5 ?kA ?kF ?kK ?k6 ?k7 ?k8 ?kB ?k9 ?_ ?c2 ?c3 ?c4 ?c5; (case kA => exact rfl); (case kF => exact rfl); (case kK => first | exact rfl | assumption); (case k1 => k_asm); (case k2 => k_asm); (case k3 => k_asm); (case k4 => k_asm); (case k5 => k_asm); (case k6 => k_is); (case k7 => k_is); (case k8 => ktr_room); (case kB => exact BindsTo.of_eq rfl); (case c5 => decide); (case k9 => exact locs rfl); (case c2 => exact rfl); (case c3 => exact rfl); (case c4 => exact rfl); k_whole)
  intro g L' h' hg' hL' FG' F' N' hlt' B' X' T'
  (try dsimp only)
  (try k_fold)
  k_steps
  refine eval_dict_enum (k0 := "type") (t := 376) (items := #[.ref 372, .ref 373, .ref 374, .ref 375]) rfl (by with_unfolding_all rfl) (by decide) (by decide) rfl rfl (by decide) rfl (by decide) (by decide) ?_
  k_steps
  (try dsimp only)
  rename Fr g L' _ _ => Fg
  rename News g L' _ _ => Ng
  have X2 := X'.keeps Fg.keep
  refine call_enum_tup (items := #[.ref 372, .ref 373, .ref 374, .ref 375]) ⟨_, X2 376 _ rfl, rfl, _, rfl⟩ fun h' he hi hz hk => ?_
  have l376 := Heap.lt_size (X2 376 _ rfl)
  refine ⟨_, _, rfl, Nat.succ_ne_self _, Nat.ne_of_lt (Nat.lt_succ_of_lt l376), Nat.ne_of_lt l376, he, hi, ⟨_, hk _ _ (X2 376 _ rfl), rfl, _, rfl⟩, fun C i v s₃ m₂ hv hn hm hk2 => sub_field (X2.keeps hk) he hi rfl rfl hv hn hm hk2, fun D h3 tk3 kvs hD hH hk3 => ?_⟩
  dsimp only at he hi hz hk hk3
  have lL := Fg.ns.lt
  have none1 : ∀ b, @LE.le Nat _ (Heap.objs _).size b → g.get? b = none := fun b hb => by
    cases ee : g.get? b with
    | none => rfl
    | some o => exact absurd (Heap.lt_size (Fg.keep b o ee)) (Nat.not_lt.mpr hb)
  have F3 := fr_but2 (Fg.keeps hk) hk3 (by
    intro hm
    rcases List.mem_cons.mp hm with hm | hm
    · rw [hm] at lL; exact absurd lL (Nat.not_lt.mpr (Nat.le_succ _))
    · rw [List.mem_singleton.mp hm] at lL; exact absurd lL (Nat.lt_irrefl _)) (none1 _ (Nat.le_succ _)) (none1 _ (Nat.le_refl _))
  have N3 := news_but2 (Ng.grown hk) hk3 (fun p hp hm => by
    have lp := Heap.lt_size (Ng p hp).1
    rcases List.mem_cons.mp hm with hm | hm
    · rw [hm] at lp; exact absurd lp (Nat.not_lt.mpr (Nat.le_succ _))
    · rw [List.mem_singleton.mp hm] at lp; exact absurd lp (Nat.lt_irrefl _))
  obtain ⟨t0, hv0⟩ := head_value hH (by decide)
  refine nameX_L (cl := []) F3 (v := .str "type" t1) rfl ?_
  refine dict_item hD hv0 ?_
  clear hk3 hD hH hv0 he hi hz hk X2 l376 Fg Ng lL none1
  (try dsimp only)
  k_steps
  rename Fr h₀ L _ _ => kF
  rename News h₀ L _ _ => kN
  rename Fr g L' _ _ => Fg
  refine hok t2 nn _ _ kF ?_
  obtain ⟨own, rest, e1, hgf, h1, h2⟩ := hU.split
  rw [hgf]
  have same : ∀ {p q : Addr × Obj}, p ∈ news → q ∈ news → p.1 = q.1 → p = q := fun {p q} hp hq ee => by
    have a := (N p hp).1
    have b := (N q hq).1
    rw [ee, b] at a
    exact Prod.ext ee (Option.some.inj a).symm
  have other : ∀ p ∈ news, p.1 ≠ d → p ∈ [(x, instObj 394 dx), (dx, dictOf (sDict w k1 k2 k3 u1 u2 d) nd)] ∨ p.1 ∉ [x, dx, d] := fun p hp hd => by
    by_cases hx : p.1 = x
    · exact .inl (by rw [same hp (ho _ (.head _)) hx]; exact .head _)
    · by_cases hdx : p.1 = dx
      · exact .inl (by rw [same hp (ho _ (.tail _ (.head _))) hdx]; exact .tail _ (.head _))
      · refine .inr fun hm => ?_
        rcases List.mem_cons.mp hm with hm | hm
        · exact hx hm
        · rcases List.mem_cons.mp hm with hm | hm
          · exact hdx hm
          · exact hd (List.mem_singleton.mp hm)
  have fin : ∀ p ∈ news, p.1 ≠ d → Heap.get? _ p.1 = some p.2 ∧ p.1 ≠ L ∧ h₀.get? p.1 = none := fun p hp hd => by
    rcases other p hp hd with hm | hm
    · exact kN p (by
        rcases List.mem_cons.mp hm with rfl | hm
        · exact .head _
        · rw [List.mem_singleton.mp hm]; exact .tail _ (.head _))
    · exact ⟨Fg.keep _ _ (hg' _ _ (N p hp).1 hm), (N p hp).2⟩
  intro p hp
  rcases List.mem_append.mp hp with hp | hp
  · exact fin p (e1 ▸ List.mem_append_left _ hp) (h1 p hp)
  · rcases List.mem_cons.mp hp with rfl | hp
    · exact kN _ (.tail _ (.tail _ (.head _)))
    · exact fin p (e1 ▸ List.mem_append_right _ (.tail _ hp)) (h2 p hp)
end Mine
end

section
set_option maxHeartbeats 8000000
namespace Mine
local macro_rules | `(tactic| walk_at "none 0") => `(tactic| fail)
local macro_rules | `(tactic| walk_at "none 1") => `(tactic| fail)
local macro_rules | `(tactic| walk_at "none 2") => `(tactic| fail)
local macro_rules | `(tactic| walk_at "none 3") => `(tactic| fail)
local macro_rules | `(tactic| walk_at "none 4") => `(tactic| fail)
local macro_rules | `(tactic| walk_at "none 5") => `(tactic| fail)
theorem resetL5 : True := by
  k_with_none
  w_top off
  trivial
theorem fillL5 : PySem.Challenge.rw_dg5011_01 = PySem.Challenge.rw_dg5011_01 ∧ hd.heap_39 = hd.heap_39 := by
  k_fill
  exact ⟨rfl, rfl⟩
local macro_rules | `(tactic| k_all) => `(tactic| with_reducible assumption)
local macro_rules | `(tactic| walk_at "my_steps") => `(tactic| repeat' (first | (k_unfold; (try dsimp only)) | (k_end; wrow_close) | (walk1; (try dsimp only)) | (dsimp only; walk1) | (leave1; walk_say "STEP leave1"; try dsimp only) | fail "no step"))
local macro_rules | `(tactic| walk_at "subscriptTail") => `(tactic| (k_here; (with_reducible show wpAny _ _ (subscriptTail _ _ (Value.ref _) (Value.int _ _)) _ _ _); (with_unfolding_all refine' i_item ?k1 ?k2 ?k3 ?k4 ?k5 ?_ ?k6; (case k1 => is_list); (case k2 => assumption); (case k3 => omega); (case k4 => omega); (case k5 => omega); (case k6 => with_unfolding_all rfl); k_whole; intro _)))
local macro_rules | `(tactic| walk_at "getAttr ref") => `(tactic| (k_here; k_dflt (first
  | (refine' hk_own ?k1 ?k2 ?k3 ?k4 ?k5 ?k6 ?k7 ?k8 ?k9 ?_; (case k1 => k_asm); (case k2 => k_asm); (case k3 => k_inst); (case k4 => k_is); (case k5 => k_is); (case k6 => k_is); (case k7 => k_is); (case k8 => k_get); (case k9 => k_handed); k_whole)
  | (refine' hk_prop (fget := 383) ?F ?X ?I ?a ?b ?c ?d ?e ?f ?g ?_; (case F => k_asm); (case X => k_asm); (case I => k_inst); (case a => k_is); (case b => k_is); (case c => k_is); (case d => k_is); (case e => k_is); (case f => k_is); (case g => k_is);
     (refine' num_code _ _ _ _ _ _ _ _ _ _ _ _ ?hl _ _ _ _ _ _ _ _ _ _ _ _ _ _ _ _ _ _ _ _ _ _ ?B ?F ?X ?N ?T ?hk ?ho ?d ?u ?_); (case F => k_asm); (case X => k_asm); (case N => k_asm); (case T => k_asm); (case B => k_asm); (case hk => rfl); (case ho => exact List.forall_mem_cons.2 ⟨by k_mem, List.forall_mem_cons.2 ⟨by k_mem, List.forall_mem_cons.2 ⟨by k_mem, fun _ h => nomatch h⟩⟩⟩); (case hl => omega); (case d => first | omega | ktr_room | (simp only [Around.deeper, Around.in1]; omega)); (case u => first | omega | (simp only [Around.deeper, Around.in1]; omega)); k_whole; intro t h' tk' F' N'; refine handed_on rfl ?_; (try dsimp only); (try k_sweep)))))
theorem rangeSmall2F : ∀ n : Fin 5, Builtin.Range.small (-((n.val : Nat) : Int) - 4) (((n.val : Nat) : Int) + 4) 1 = true ∧ Builtin.Range.rangeSize (-((n.val : Nat) : Int) - 4) (((n.val : Nat) : Int) + 4) 1 = (((2 * n.val + 8 : Nat)) : Int) := by decide +kernel
theorem ints_some : ∀ l : List Value, (∀ v ∈ l, ∃ k t, v = Value.int k t) → ∃ ks, IntsAre l ks ∧ ks.length = l.length
  | [], _ => ⟨[], .nil, rfl⟩
  | v :: r, h => by
    obtain ⟨k, t, rfl⟩ := h v List.mem_cons_self
    obtain ⟨ks, hk, hl⟩ := ints_some r fun v hv => h v (List.mem_cons_of_mem _ hv)
    exact ⟨k :: ks, .cons k t hk, by simp [hl]⟩
theorem list_range_K {prog : Program} {w : World} {A : Around} {E : Value → Shared → Prop} {s : Shared} {h₀ : Heap} {L r : Addr} {m : Str → Option Value} {news : List (Addr × Obj)} {t u v : Tok} {c : Int} {Q : Value → Shared → Prop} (hc0 : 0 ≤ c) (hc1 : c ≤ 4) (hh : A.handled = none) (F : Fr h₀ L s.heap m) (N : News h₀ L s.heap news) (hr : IsRange s.heap r (-c - 4) (c + 4) 1 t u v)
    (h : ∀ D ys ks k h' tk', Fr h₀ L h' m → News h₀ L h' ((D, listOf (List.toArray ys) k) :: news) → (∀ p ∈ news, p.1 < D) → IntsAre ys ks → ks.length ≤ 16 → Q (.ref D) { s with heap := h', toks := tk' }) : wpAny (model prog w) A (call (.type "list") [.ref r]) Q E s := by
  obtain ⟨n, rfl⟩ : ∃ n : Fin 5, c = ((n.val : Nat) : Int) := ⟨⟨c.toNat, by omega⟩, by dsimp only; omega⟩
  have z := rangeSmall2F n
  refine call_list_range hh hr z.1 z.2 (by omega) fun h' tk acc' c' hk hS hacc => ?_
  obtain ⟨ks, hks, hlen⟩ := ints_some acc'.toList fun v hv => by
    obtain ⟨j, hj⟩ := List.getElem?_of_mem hv
    obtain ⟨t, e⟩ := hacc.2 j v (by rw [← Array.getElem?_toList]; exact hj)
    exact ⟨_, t, e⟩
  have fresh : h₀.get? s.heap.objs.size = none := next_is_new F
  refine h s.heap.objs.size acc'.toList ks c' h' tk (F.keeps hk) (fun p hp => ?_) (fun p hp => Heap.lt_size (N p hp).1) hks ?_
  · rcases List.mem_cons.mp hp with rfl | hp
    · exact ⟨by rw [Array.toArray_toList]; exact hS, Nat.ne_of_gt F.ns.lt, fresh⟩
    · exact ⟨hk _ _ (N p hp).1, (N p hp).2⟩
  · rw [hlen, Array.length_toList, hacc.1]; omega
local macro_rules | `(tactic| walk_at "call type:list") => `(tactic| (k_here; (with_reducible show wpAny _ _ (call (Value.type "list") [Value.ref _]) _ _ _); k_dflt (refine' list_range_K ?a ?b ?h ?F ?N ?r ?_; (case r => assumption); (case a => assumption); (case b => assumption); (case h => rfl); (case F => k_asm); (case N => k_asm)); intro D' ys' ks' k' h' tk' F' N' l1 hI' hk'; (try dsimp only); (try k_lt l1); (try k_sweep)))
local macro_rules | `(tactic| walk_at "binaryOp Add ref ref") => `(tactic| (k_here; (with_reducible show wpAny _ _ (binaryOp _ (Value.ref _) (Value.ref _)) _ _ _); k_dflt (refine' kmk_add_ints ?F ?N ?a ?b ?i ?j ?_ ?z; (case F => k_asm); (case N => k_asm); (case a => is_list); (case b => is_list); (case i => assumption); (case j => exact .cons _ _ (.cons _ _ .nil)); (case z => (rw [sizeLine_eq]; simp only [List.length_cons, List.length_nil]; omega))); intro D' ws' h' F' N' l1 hI'; (try dsimp only); (try k_lt l1); (try k_sweep)))
theorem AllLt.mem {d : Addr} : ∀ {l : List (Addr × Obj)}, AllLt d l → ∀ p ∈ l, @LT.lt Nat _ p.1 d
  | [], _, _, h => nomatch h
  | _ :: _, x, p, h => by
    rcases List.mem_cons.mp h with rfl | h
    · exact x.1
    · exact AllLt.mem x.2 p h
/-- new objects stand apart from all that stood -/
def Apart (old new : List (Addr × Obj)) : Prop := ∀ p ∈ new, AllLt p.1 old
theorem strs_dat {news : List (Addr × Obj)} : ∀ {vs : List Value} {xs : List Str}, StrsAre vs xs → DatAll news vs (xs.map Dat.str)
  | _, _, .nil => .nil
  | _, _, .cons y t r => .cons (.str y t) (strs_dat r)
abbrev lm (x kd g wn D : Addr) (T : Str) (t1 t2 : Tok) (size : Int) (m : Str → Option Value) : Str → Option Value := upd "s" (.ref x) (upd "text" (.str T t1) (upd "row" (.ref D) (upd "size" (.int size t2) (upd "kinds" (.ref kd) (upd "got" (.ref g) (upd "want" (.ref wn) m))))))
theorem glue47 {w : World} {L cA cD D g wn x dx d dr kd nl j1 j2 e1 D1 e2 D2 : Addr} {T0 : Str} {t1 : Tok} {h₀ h' : Heap} {m : Str → Option Value} {rest : List (Addr × Obj)} {s : Shared} {Q : Flow → Shared → Prop} {gs ws vs ys drs nvs : List Value} {xs : List Str} {ks2 : List Int} {oA oD o1 o2 : Obj} {size : Int} {t2 t ta tb : Tok} {ng nw nd nn ndr zn z1 z2 c1 c2 tk' : Nat} {k1 k2 k3 : Tok} {u1 u2 : Value} {a b : Int} (hv : StrsAre vs xs) (hy : StrsAre ys xs) (ev : ((vs.length : Nat) : Int) = size)
  (hq : ∀ (h' : Heap) (tk' : Nat) (t : Tok) (nl e1 e2 : Addr) (nvs : List Value) (ks : List Int) (zn z1 z2 : Nat) (new : List (Addr × Obj)), IntsAre nvs ks → ks.length ≤ 18 → DatIn new (.ref e1) (.list [.int (size.fdiv 4), .list (xs.map Dat.str)]) → DatIn new (.ref e2) (.list [.int (size.fdiv 4), .list (xs.map Dat.str)]) →
    Fr h₀ L h' (upd "numbers" (.ref nl) (upd "count" (.int (size.fdiv 4) t) (lm x kd g wn D T0 t1 t2 size m))) →
    News h₀ L h' ((g, listOf (gs ++ [Value.ref e1]).toArray z1) :: (wn, listOf (ws ++ [Value.ref e2]).toArray z2) :: (x, instObj 394 dx) :: (dx, dictOf (sDict w k1 k2 k3 u1 u2 d) nd) :: (d, listOf vs.toArray nn) :: (D, LCg.lst ys) :: (cA, oA) :: (cD, oD) :: (dr, listOf drs.toArray ndr) :: (nl, listOf nvs.toArray zn) :: (new ++ rest)) →
    Apart ((g, listOf gs.toArray ng) :: (wn, listOf ws.toArray nw) :: (x, instObj 394 dx) :: (dx, dictOf (sDict w k1 k2 k3 u1 u2 d) nd) :: (d, listOf vs.toArray nn) :: (D, LCg.lst ys) :: (cA, oA) :: (cD, oD) :: (dr, listOf drs.toArray ndr) :: rest) ((nl, listOf nvs.toArray zn) :: new) → (∀ p ∈ new, @Ne Nat p.1 nl) → Q .next { s with heap := h', toks := tk' })
  (hI : IntsAre nvs (ks2 ++ [a, b])) (hk2 : ks2.length ≤ 16)
  (kF : Fr h₀ L h' (upd "numbers" (.ref nl) (upd "count" (.int (size.fdiv 4) t) (lm x kd g wn D T0 t1 t2 size m))))
  (kN : News h₀ L h' ((nl, listOf nvs.toArray zn) :: (j1, o1) :: (j2, o2) :: (e2, listOf #[Value.int (size.fdiv 4) tb, Value.ref D2] 0) :: (D2, listOf ys.toArray c2) :: (e1, listOf #[Value.int ((vs.length : Int).fdiv 4) ta, Value.ref D1] 0) :: (D1, listOf vs.toArray c1) :: (g, listOf (gs.toArray.push (Value.ref e1)) z1) :: (wn, listOf (ws.toArray.push (Value.ref e2)) z2) :: (x, instObj 394 dx) :: (dx, dictOf (sDict w k1 k2 k3 u1 u2 d) nd) :: (d, listOf vs.toArray nn) :: (D, LCg.lst ys) :: (cA, oA) :: (cD, oD) :: (dr, listOf drs.toArray ndr) :: rest))
  (q1 : AllLt D1 ((g, listOf gs.toArray ng) :: (wn, listOf ws.toArray nw) :: (x, instObj 394 dx) :: (dx, dictOf (sDict w k1 k2 k3 u1 u2 d) nd) :: (d, listOf vs.toArray nn) :: (D, LCg.lst ys) :: (cA, oA) :: (cD, oD) :: (dr, listOf drs.toArray ndr) :: rest)) (q2 : @LT.lt Nat _ D1 e1 ∧ AllLt e1 ((g, listOf gs.toArray ng) :: (wn, listOf ws.toArray nw) :: (x, instObj 394 dx) :: (dx, dictOf (sDict w k1 k2 k3 u1 u2 d) nd) :: (d, listOf vs.toArray nn) :: (D, LCg.lst ys) :: (cA, oA) :: (cD, oD) :: (dr, listOf drs.toArray ndr) :: rest)) (q3 : @LT.lt Nat _ e1 D2 ∧ @LT.lt Nat _ D1 D2 ∧ AllLt D2 ((g, listOf gs.toArray ng) :: (wn, listOf ws.toArray nw) :: (x, instObj 394 dx) :: (dx, dictOf (sDict w k1 k2 k3 u1 u2 d) nd) :: (d, listOf vs.toArray nn) :: (D, LCg.lst ys) :: (cA, oA) :: (cD, oD) :: (dr, listOf drs.toArray ndr) :: rest))
  (q4 : @LT.lt Nat _ D2 e2 ∧ @LT.lt Nat _ e1 e2 ∧ @LT.lt Nat _ D1 e2 ∧ AllLt e2 ((g, listOf gs.toArray ng) :: (wn, listOf ws.toArray nw) :: (x, instObj 394 dx) :: (dx, dictOf (sDict w k1 k2 k3 u1 u2 d) nd) :: (d, listOf vs.toArray nn) :: (D, LCg.lst ys) :: (cA, oA) :: (cD, oD) :: (dr, listOf drs.toArray ndr) :: rest)) (q5 : @LT.lt Nat _ j1 nl ∧ @LT.lt Nat _ j2 nl ∧ @LT.lt Nat _ e2 nl ∧ @LT.lt Nat _ D2 nl ∧ @LT.lt Nat _ e1 nl ∧ @LT.lt Nat _ D1 nl ∧ AllLt nl ((g, listOf gs.toArray ng) :: (wn, listOf ws.toArray nw) :: (x, instObj 394 dx) :: (dx, dictOf (sDict w k1 k2 k3 u1 u2 d) nd) :: (d, listOf vs.toArray nn) :: (D, LCg.lst ys) :: (cA, oA) :: (cD, oD) :: (dr, listOf drs.toArray ndr) :: rest)) : Q .next { s with heap := h', toks := tk' } := by
  rw [ev] at kN
  rw [List.push_toArray, List.push_toArray] at kN
  have sub : ∀ p ∈ (g, listOf (gs ++ [Value.ref e1]).toArray z1) :: (wn, listOf (ws ++ [Value.ref e2]).toArray z2) :: (x, instObj 394 dx) :: (dx, dictOf (sDict w k1 k2 k3 u1 u2 d) nd) :: (d, listOf vs.toArray nn) :: (D, LCg.lst ys) :: (cA, oA) :: (cD, oD) :: (dr, listOf drs.toArray ndr) :: (nl, listOf nvs.toArray zn) :: ([(e2, listOf #[Value.int (size.fdiv 4) tb, Value.ref D2] 0), (D2, listOf ys.toArray c2), (e1, listOf #[Value.int (size.fdiv 4) ta, Value.ref D1] 0), (D1, listOf vs.toArray c1)] ++ rest),
      p ∈ ((nl, listOf nvs.toArray zn) :: (j1, o1) :: (j2, o2) :: (e2, listOf #[Value.int (size.fdiv 4) tb, Value.ref D2] 0) :: (D2, listOf ys.toArray c2) :: (e1, listOf #[Value.int (size.fdiv 4) ta, Value.ref D1] 0) :: (D1, listOf vs.toArray c1) :: (g, listOf (gs ++ [Value.ref e1]).toArray z1) :: (wn, listOf (ws ++ [Value.ref e2]).toArray z2) :: (x, instObj 394 dx) :: (dx, dictOf (sDict w k1 k2 k3 u1 u2 d) nd) :: (d, listOf vs.toArray nn) :: (D, LCg.lst ys) :: (cA, oA) :: (cD, oD) :: (dr, listOf drs.toArray ndr) :: rest) := by
    intro p hp
    simp only [List.mem_cons, List.mem_append, List.not_mem_nil, or_false] at hp ⊢
    rcases hp with h | h | h | h | h | h | h | h | h | h | (h | h | h | h) | h <;> simp [h]
  refine hq _ _ _ _ _ _ _ _ _ _ _ [(e2, listOf #[Value.int (size.fdiv 4) tb, Value.ref D2] 0), (D2, listOf ys.toArray c2), (e1, listOf #[Value.int (size.fdiv 4) ta, Value.ref D1] 0), (D1, listOf vs.toArray c1)] hI (by simp only [List.length_append, List.length_cons, List.length_nil]; omega) ?_ ?_ kF (fun p hp => kN p (sub p hp)) ?_ ?_
  · exact .list (.tail _ (.tail _ (.head _))) (.cons (.int _ _) (.cons (.list (.tail _ (.tail _ (.tail _ (.head _)))) (strs_dat hv)) .nil))
  · exact .list (.head _) (.cons (.int _ _) (.cons (.list (.tail _ (.head _)) (strs_dat hy)) .nil))
  · intro p hp
    simp only [List.mem_cons, List.not_mem_nil, or_false] at hp
    rcases hp with rfl | rfl | rfl | rfl | rfl
    · exact q5.2.2.2.2.2.2
    · exact q4.2.2.2
    · exact q3.2.2
    · exact q2.2
    · exact q1
  · intro p hp
    simp only [List.mem_cons, List.not_mem_nil, or_false] at hp
    rcases hp with rfl | rfl | rfl | rfl
    · exact Nat.ne_of_lt q5.2.2.1
    · exact Nat.ne_of_lt q5.2.2.2.1
    · exact Nat.ne_of_lt q5.2.2.2.2.1
    · exact Nat.ne_of_lt q5.2.2.2.2.2.1
theorem st47 (w : World) {a4 a5 a6 a7 : Stmt} {cs : Scope} (hs4 : (turnBody w.params)[4]? = some a4) (hs5 : (turnBody w.params)[5]? = some a5) (hs6 : (turnBody w.params)[6]? = some a6) (hs7 : (turnBody w.params)[7]? = some a7) (hcs : lawScope w.params = some cs)
  (loose : List Str) (mean : ExcName → Option Value) (mg mb : Str → Option Value) (dp un : Nat) (gd : Option (List Code)) (L fa cA cD D g wn x dx d dr kd : Addr) (T0 : Str) (t1 : Tok) (cd : Value) (A₀ : Around) (h₀ : Heap) (m : Str → Option Value) (rest : List (Addr × Obj)) (s : Shared) (Q : Flow → Shared → Prop) (E : Value → Shared → Prop)
  (gs ws vs ys drs : List Value) (xs : List Str) (ns : List Int) (hv : StrsAre vs xs) (hy : StrsAre ys xs) (hl : xs.length ≤ 18) (oA oD : Obj) (at' size : Int) (ta t2 : Tok) (ng nw nd nn ndr : Nat) (k1 k2 k3 : Tok) (u1 u2 : Value) (hA : oA.data = .cell (some (.int at' ta))) (hD : oD.data = .cell (some (.ref dr))) (hI : IntsAre drs ns) (hnl : ns.length = 21) (ha0 : 0 ≤ at') (ha2 : at' ≤ 2) (hsz : size = xs.length) (hgl : gs.length ≤ 1000) (hwl : ws.length ≤ 1000) (hdp : dp + 40 < recursionLimit) (hun : un + 600 < cLine)
  (B : Below A₀ h₀ [] h₀) (F : Fr h₀ L s.heap (upd "s" (.ref x) (upd "text" (.str T0 t1) (upd "row" (.ref D) (upd "size" (.int size t2) (upd "kinds" (.ref kd) (upd "got" (.ref g) (upd "want" (.ref wn) m)))))))) (X : (hd.heap_39 w.params).In h₀)
  (N : News h₀ L s.heap ((g, listOf gs.toArray ng) :: (wn, listOf ws.toArray nw) :: (x, instObj 394 dx) :: (dx, dictOf (sDict w k1 k2 k3 u1 u2 d) nd) :: (d, listOf vs.toArray nn) :: (D, LCg.lst ys) :: (cA, oA) :: (cD, oD) :: (dr, listOf drs.toArray ndr) :: rest)) (T : Top hd.view_39 loose mean mg mb h₀)
  (hg : ∀ p ∈ (wn, listOf ws.toArray nw) :: (x, instObj 394 dx) :: (dx, dictOf (sDict w k1 k2 k3 u1 u2 d) nd) :: (d, listOf vs.toArray nn) :: (D, LCg.lst ys) :: (cA, oA) :: (cD, oD) :: (dr, listOf drs.toArray ndr) :: rest, @Ne Nat p.1 g)
  (hw : ∀ p ∈ (x, instObj 394 dx) :: (dx, dictOf (sDict w k1 k2 k3 u1 u2 d) nd) :: (d, listOf vs.toArray nn) :: (D, LCg.lst ys) :: (cA, oA) :: (cD, oD) :: (dr, listOf drs.toArray ndr) :: rest, @Ne Nat p.1 wn)
  (hq : ∀ (h' : Heap) (tk' : Nat) (t : Tok) (nl e1 e2 : Addr) (nvs : List Value) (ks : List Int) (zn z1 z2 : Nat) (new : List (Addr × Obj)), IntsAre nvs ks → ks.length ≤ 18 → DatIn new (.ref e1) (.list [.int (size.fdiv 4), .list (xs.map Dat.str)]) → DatIn new (.ref e2) (.list [.int (size.fdiv 4), .list (xs.map Dat.str)]) →
    Fr h₀ L h' (upd "numbers" (.ref nl) (upd "count" (.int (size.fdiv 4) t) (lm x kd g wn D T0 t1 t2 size m))) →
    News h₀ L h' ((g, listOf (gs ++ [Value.ref e1]).toArray z1) :: (wn, listOf (ws ++ [Value.ref e2]).toArray z2) :: (x, instObj 394 dx) :: (dx, dictOf (sDict w k1 k2 k3 u1 u2 d) nd) :: (d, listOf vs.toArray nn) :: (D, LCg.lst ys) :: (cA, oA) :: (cD, oD) :: (dr, listOf drs.toArray ndr) :: (nl, listOf nvs.toArray zn) :: (new ++ rest)) →
    Apart ((g, listOf gs.toArray ng) :: (wn, listOf ws.toArray nw) :: (x, instObj 394 dx) :: (dx, dictOf (sDict w k1 k2 k3 u1 u2 d) nd) :: (d, listOf vs.toArray nn) :: (D, LCg.lst ys) :: (cA, oA) :: (cD, oD) :: (dr, listOf drs.toArray ndr) :: rest) ((nl, listOf nvs.toArray zn) :: new) → (∀ p ∈ new, @Ne Nat p.1 nl) → Q .next { s with heap := h', toks := tk' }) :
  wpAny (model PySem.Challenge.pw_dg5011_01 w) (ktrTop dp un gd "law" cs L fa cd [("at", cA), ("draw", cD)] []) (execs [a4, a5, a6, a7] (envX "law" cs L fa cd [("at", cA), ("draw", cD)])) Q E s := by
  have vl : vs.length = xs.length := hv.length
  have yl : ys.length = xs.length := hy.length
  have g1 : @Ne Nat wn g := hg _ (.head _)
  have g2 : @Ne Nat x g := hg _ (.tail _ (.head _))
  have g3 : @Ne Nat dx g := hg _ (.tail _ (.tail _ (.head _)))
  have g4 : @Ne Nat d g := hg _ (.tail _ (.tail _ (.tail _ (.head _))))
  have g5 : @Ne Nat D g := hg _ (.tail _ (.tail _ (.tail _ (.tail _ (.head _)))))
  have g6 : @Ne Nat cA g := hg _ (.tail _ (.tail _ (.tail _ (.tail _ (.tail _ (.head _))))))
  have g7 : @Ne Nat cD g := hg _ (.tail _ (.tail _ (.tail _ (.tail _ (.tail _ (.tail _ (.head _)))))))
  have g8 : @Ne Nat dr g := hg _ (.tail _ (.tail _ (.tail _ (.tail _ (.tail _ (.tail _ (.tail _ (.head _))))))))
  have g9 : ∀ p ∈ rest, p.1 ≠ g := fun p hp => hg p (.tail _ (.tail _ (.tail _ (.tail _ (.tail _ (.tail _ (.tail _ (.tail _ hp))))))))
  have w2 : @Ne Nat x wn := hw _ (.head _)
  have w3 : @Ne Nat dx wn := hw _ (.tail _ (.head _))
  have w4 : @Ne Nat d wn := hw _ (.tail _ (.tail _ (.head _)))
  have w5 : @Ne Nat D wn := hw _ (.tail _ (.tail _ (.tail _ (.head _))))
  have w6 : @Ne Nat cA wn := hw _ (.tail _ (.tail _ (.tail _ (.tail _ (.head _)))))
  have w7 : @Ne Nat cD wn := hw _ (.tail _ (.tail _ (.tail _ (.tail _ (.tail _ (.head _))))))
  have w8 : @Ne Nat dr wn := hw _ (.tail _ (.tail _ (.tail _ (.tail _ (.tail _ (.tail _ (.head _)))))))
  have w9 : ∀ p ∈ rest, p.1 ≠ wn := fun p hp => hw p (.tail _ (.tail _ (.tail _ (.tail _ (.tail _ (.tail _ (.tail _ hp)))))))
  clear hg hw
  have hc : size.fdiv 4 = size / 4 := Int.fdiv_eq_ediv_of_nonneg _ (by decide)
  have hc0 : 0 ≤ size.fdiv 4 := by omega
  have hc1 : size.fdiv 4 ≤ 4 := by omega
  clear hc
  cases hs4
  cases hs5
  cases hs6
  cases hs7
  cases hcs
  (try k_fold)
  k_steps
  dsimp only at *
  rename IntsAre _ (_ ++ _) => hI1
  rename List.length _ ≤ 16 => hI2
  rename Fr h₀ L _ _ => kF
  rename News h₀ L _ _ => kN
  exact glue47 hv hy (by omega) hq hI1 hI2 kF kN (by assumption) (by assumption) (by assumption) (by assumption) (by assumption)
end Mine
end

section
namespace Mine
theorem resetPick : True := by
  k_with_none
  w_top off
  trivial
def clp (x : Int) (n : Nat) : Nat := (max 0 (min (if x < 0 then x + n else x) (n : Int))).toNat
theorem clp_le (x : Int) (n : Nat) : clp x n ≤ n := by unfold clp; omega
theorem bounds_clp (x y : Int) (n : Nat) : sliceBounds (some x) (some y) none n = (((clp x n : Nat) : Int), ((clp y n : Nat) : Int), 1) := by
  simp only [sliceBounds, Option.getD_none, show (1 : Int) > 0 by decide, if_true]
  unfold clp
  congr 1
  · omega
  · congr 1
    omega
theorem row_refused' {xs : List Str} {i : Int} (h : clp (i * 4 + 4) xs.length - clp (i * 4) xs.length < 4) : rowD xs i = .str "refused" := by
  refine row_refused (n := xs.length) rfl ?_
  unfold clp at h
  by_cases h1 : i = -1
  · exact .inl h1
  · by_cases h0 : i < 0
    · rw [if_pos (by omega), if_pos (by omega)] at h
      omega
    · rw [if_neg (by omega), if_neg (by omega)] at h
      omega
theorem row_told' {xs : List Str} {i : Int} {y1 y2 y3 y4 : Str} (h : clp (i * 4 + 4) xs.length - clp (i * 4) xs.length = 4) (hy : (xs.drop (clp (i * 4) xs.length)).take 4 = [y1, y2, y3, y4]) : rowD xs i = .list [.str y1, .str y2, .str y3, .str y4] := by
  have h1 : i ≠ -1 := by
    rintro rfl
    unfold clp at h
    rw [if_neg (by omega), if_pos (by omega)] at h
    omega
  have hf : ((if i < 0 then (xs.length : Int) + 4 * i else 4 * i)) = ((clp (i * 4) xs.length : Nat) : Int) ∧ clp (i * 4) xs.length + 4 ≤ xs.length := by
    unfold clp at h ⊢
    by_cases h0 : i < 0
    · rw [if_pos (by omega), if_pos (by omega)] at h
      rw [if_pos h0, if_pos (by omega)]
      omega
    · rw [if_neg (by omega), if_neg (by omega)] at h
      rw [if_neg h0, if_neg (by omega)]
      omega
  obtain ⟨hf, hb⟩ := hf
  unfold rowD
  dsimp only
  rw [hf, if_neg h1, if_neg (by omega)]
  generalize clp (i * 4) xs.length = a at hy hb ⊢
  have at' : ∀ k, k < 4 → xs.getD (((a : Nat) : Int) + (k : Nat)).toNat Str.empty = ([y1, y2, y3, y4] : List Str).getD k Str.empty := by
    intro k hk
    have e : (((a : Nat) : Int) + (k : Nat)).toNat = a + k := by omega
    rw [e, ← hy, List.getD_eq_getElem?_getD, List.getD_eq_getElem?_getD, List.getElem?_take_of_lt hk, List.getElem?_drop]
  have e0 := at' 0 (by decide)
  have e1 := at' 1 (by decide)
  have e2 := at' 2 (by decide)
  have e3 := at' 3 (by decide)
  rw [show (((a : Nat) : Int)).toNat = (((a : Nat) : Int) + ((0 : Nat) : Int)).toNat by simp, e0, show ((a : Nat) : Int) + 1 = ((a : Nat) : Int) + ((1 : Nat) : Int) from rfl, e1, show ((a : Nat) : Int) + 2 = ((a : Nat) : Int) + ((2 : Nat) : Int) from rfl, e2, show ((a : Nat) : Int) + 3 = ((a : Nat) : Int) + ((3 : Nat) : Int) from rfl, e3]
  rfl
/-- what get_transducer's slice takes is what the law's own row tells -/
theorem pick_law {vs : List Value} {xs : List Str} (hv : StrsAre vs xs) (i : Int) : ∃ zs ys, (slicePick vs.toArray (some (i * 4)) (some (i * 4 + 4)) none).toList = zs ∧ StrsAre zs ys ∧ zs.length ≤ 4 ∧ (zs.length < 4 → rowD xs i = .str "refused") ∧
    (∀ y1 y2 y3 y4, ys = [y1, y2, y3, y4] → rowD xs i = .list [.str y1, .str y2, .str y3, .str y4]) := by
  have hl : vs.length = xs.length := hv.length
  have hb := bounds_clp (i * 4) (i * 4 + 4) vs.toArray.size
  rw [List.size_toArray, hl] at hb
  have hz : (slicePick vs.toArray (some (i * 4)) (some (i * 4 + 4)) none).toList = (vs.drop (clp (i * 4) xs.length)).take (clp (i * 4 + 4) xs.length - clp (i * 4) xs.length) := by
    rw [kmk_pick_nat vs.toArray (a := clp (i * 4) xs.length) (b := clp (i * 4 + 4) xs.length) (by rw [List.size_toArray, hl]; exact hb)]
  have l1 := clp_le (i * 4) xs.length
  have l2 := clp_le (i * 4 + 4) xs.length
  have l3 : clp (i * 4 + 4) xs.length - clp (i * 4) xs.length ≤ 4 := by
    unfold clp
    by_cases h0 : i < 0
    · rw [if_pos (show i * 4 < 0 by omega)]
      by_cases h1 : i * 4 + 4 < 0
      · rw [if_pos h1]; omega
      · rw [if_neg h1]; omega
    · rw [if_neg (show ¬ i * 4 < 0 by omega), if_neg (show ¬ i * 4 + 4 < 0 by omega)]; omega
  refine ⟨_, (xs.drop (clp (i * 4) xs.length)).take (clp (i * 4 + 4) xs.length - clp (i * 4) xs.length), hz, (hv.drop' _).take' _, ?_, ?_, ?_⟩
  · rw [List.length_take]; omega
  · intro h
    rw [List.length_take, List.length_drop, hl] at h
    exact row_refused' (by omega)
  · intro y1 y2 y3 y4 hy
    have e := congrArg List.length hy
    rw [List.length_take, List.length_drop] at e
    have e : min (clp (i * 4 + 4) xs.length - clp (i * 4) xs.length) (xs.length - clp (i * 4) xs.length) = 4 := e
    have h4 : clp (i * 4 + 4) xs.length - clp (i * 4) xs.length = 4 := by omega
    rw [h4] at hy
    exact row_told' h4 hy
theorem row_ok {xs : List Str} {i : Int} : (∀ x ∈ xs, PyData.strOk x = true) → kqdOk 8 (rowD xs i) = true := by
  intro h
  have g : ∀ k : Int, PyData.strOk (xs.getD k.toNat Str.empty) = true := fun k => by
    rw [List.getD_eq_getElem?_getD]
    cases e : xs[k.toNat]? with
    | none => show PyData.strOk Str.empty = true; decide +kernel
    | some x => exact h x (List.mem_of_getElem? e)
  unfold rowD
  dsimp only
  (repeat' split) <;> first
    | (show PyData.strOk _ = true; decide +kernel)
    | (show List.all _ (kqdOk 7) = true
       simp only [List.all_cons, List.all_nil, Bool.and_true, Bool.and_eq_true]
       exact ⟨g _, g _, g _, g _⟩)
end Mine
end

section
set_option maxHeartbeats 8000000
namespace Mine
theorem resetL6 : True := by
  k_with_none
  w_top off
  trivial
theorem fillL6 : PySem.Challenge.rw_dg5011_01 = PySem.Challenge.rw_dg5011_01 ∧ hd.heap_39 = hd.heap_39 := by
  k_fill
  exact ⟨rfl, rfl⟩
theorem forListC {prog : Program} {w : World} {A : Around} {env : Env} {x : Str} {px : Pos} {it nl : Addr} {vs : List Value} {body : List Stmt} {R : Result → Shared → Prop} (hh : A.handled = none) (I : Nat → Shared → Prop)
  (hI : ∀ i s, I i s → s.heap.IsListIter it nl i ∧ s.heap.IsList nl vs.toArray)
  (step : ∀ i v s h', vs[i]? = some v → I i s → h'.IsListIter it nl (i + 1) → Heap.SameBut it s.heap h' → wpAny (model prog w) A (storeName env x v) (fun _ s₂ => wpC (model prog w) A (execs body env) (fun f s₃ => f = .next ∧ I (i + 1) s₃) (fun _ _ => False) s₂) (fun _ _ => False) { s with heap := h' })
  (fin : ∀ s h', I vs.length s → Heap.ExtBut it s.heap h' → R (.ok .next) { s with heap := h' }) :
  ∀ k i s, i + k = vs.length → I i s → codeC (model prog w) A (.forLoop (.Name x px) (.ref it) body [] env) R s
  | 0, i, s, hk, h => by
    have e : i = vs.length := by omega
    subst e
    obtain ⟨h1, h2⟩ := hI _ _ h
    exact codeC_forTurn (fun _ => rfl) (wpAny_pyNext_list_end hh h1 h2 (by simp) fun h' he => fin s h' h he)
  | k + 1, i, s, hk, h => by
    obtain ⟨h1, h2⟩ := hI _ _ h
    have hi : i < vs.length := by omega
    have hv : vs[i]? = some vs[i] := List.getElem?_eq_getElem hi
    refine codeC_forTurn (fun _ => rfl) (wpAny_pyNext_list_item h1 h2 (x := vs[i]) (by simp [hi]) fun h' hit' hs' => ?_)
    refine wpAny_assign_Name (wpAny_mono (step i _ s h' hv h hit' hs') (fun _ s₂ h₂ => wpC_mono h₂ (fun f s₃ h₃ => ?_) fun _ _ z => z) fun _ _ z => z)
    obtain ⟨rfl, h₃⟩ := h₃
    exact forListC hh I hI step fin k (i + 1) s₃ (by omega) h₃
theorem append_N {prog : Program} {w : World} {A : Around} {E : Value → Shared → Prop} {s : Shared} {h₀ : Heap} {L g : Addr} {m : Str → Option Value} {rest : List (Addr × Obj)} {vs : List Value} {n : Nat} {v : Value} {Q : Value → Shared → Prop} (F : Fr h₀ L s.heap m) (N : News h₀ L s.heap ((g, listOf vs.toArray n) :: rest)) (hoff : ∀ p ∈ rest, p.1 ≠ g) (hz : vs.length < 100000)
    (h : ∀ h', Fr h₀ L h' m → News h₀ L h' ((g, listOf (vs ++ [v]).toArray (n + 1)) :: rest) → Q .none { s with heap := h' }) : wpAny (model prog w) A (call (.builtin "list.append") [.ref g, v]) Q E s := by
  refine append_K F N (Upd.head hoff) (fun h' F' N' => h h' F' ?_) ?_
  · rw [← List.push_toArray]; exact N'
  · rw [List.size_toArray, sizeLine_eq]; omega
end Mine
end

section
set_option maxHeartbeats 8000000
namespace Mine
theorem resetL7 : True := by
  k_with_none
  w_top off
  trivial
theorem fillL7 : PySem.Challenge.rw_dg5011_01 = PySem.Challenge.rw_dg5011_01 ∧ hd.heap_39 = hd.heap_39 := by
  k_fill
  exact ⟨rfl, rfl⟩
noncomputable def innerBody (P : Params) : List Stmt := forBody ((turnBody P).getD 8 (.Pass default))
theorem sIn0 (w : World) {st : Stmt} {cs : Scope} (hst : (innerBody w.params)[0]? = some st) (hcs : lawScope w.params = some cs)
  (loose : List Str) (mean : ExcName → Option Value) (mg mb : Str → Option Value) (dp un : Nat) (gd : Option (List Code)) (L fa cA cD D g wn x dx d kd : Addr) (T0 : Str) (t1 t2 tc ti : Tok) (cd v5 : Value) (A₀ : Around) (h₀ : Heap) (m : Str → Option Value) (rest : List (Addr × Obj)) (s : Shared) (Q : Flow → Shared → Prop) (E : Value → Shared → Prop)
  (gs vs : List Value) (xs : List Str) (size c5 i : Int) (hv : StrsAre vs xs) (hl : xs.length ≤ 18) (z1 nn nd : Nat) (k1 k2 k3 : Tok) (u1 u2 : Value) (hgl : gs.length < 100000) (hdp : dp + 40 < recursionLimit) (hun : un + 600 < cLine)
  (B : Below A₀ h₀ [] h₀) (F : Fr h₀ L s.heap (upd "i" (.int i ti) (upd "numbers" v5 (upd "count" (.int c5 tc) (lm x kd g wn D T0 t1 t2 size m))))) (X : (hd.heap_39 w.params).In h₀) (T : Top hd.view_39 loose mean mg mb h₀)
  (N : News h₀ L s.heap ((g, listOf gs.toArray z1) :: rest)) (ho : ∀ p ∈ [(x, instObj 394 dx), (dx, dictOf (sDict w k1 k2 k3 u1 u2 d) nd), (d, listOf vs.toArray nn)], p ∈ rest) (hoff : ∀ p ∈ rest, p.1 ≠ g)
  (hq : ∀ h' tk' r tl, Fr h₀ L h' (upd "i" (.int i ti) (upd "numbers" v5 (upd "count" (.int c5 tc) (lm x kd g wn D T0 t1 t2 size m)))) → News h₀ L h' ((g, listOf (gs ++ [r]).toArray (z1 + 1)) :: (tl ++ rest)) → (∀ q ∈ tl, ∀ p ∈ (g, listOf gs.toArray z1) :: rest, p.1 ≠ q.1) → DatIn tl r (rowD xs i) → Q .next { s with heap := h', toks := tk' }) :
  wpC (model PySem.Challenge.pw_dg5011_01 w) (ktrTop dp un gd "law" cs L fa cd [("at", cA), ("draw", cD)] []) (exec st (envX "law" cs L fa cd [("at", cA), ("draw", cD)])) Q E s := by
  obtain ⟨zs, ysq, hz, hzs, hz4, hz5, hz6⟩ := pick_law hv i
  have vl : vs.length = xs.length := hv.length
  cases hst
  cases hcs
  refine wpC_Expr (wpC_evalMethod ?_)
  (try k_fold)
  k_steps
  refine wpC_callWith (P := fun _ => True) rfl (fun _ _ => ⟨.machine, .inr (.inl rfl), Looks.of_pure rfl⟩) (wpC_evalArgs (wpC_spliced_cons ?_))
  rw [if_neg Bool.false_ne_true]
  refine wpC_evalCall ?_
  (try k_fold)
  k_steps
  refine wpC_callWith (P := (hd.heap_39 w.params).In) rfl (keeps_K (by k_is)) (wpC_evalArgs (wpC_spliced_cons (wpC_any ?_)))
  rw [if_neg Bool.false_ne_true]
  (try dsimp only)
  k_steps
  refine wpC_spliced_cons (wpC_any ?_)
  rw [if_neg Bool.false_ne_true]
  (try dsimp only)
  k_steps
  (try dsimp only)
  refine wpC_spliced_nil ⟨X.keeps F.keep, ?_⟩
  refine seen_spec w x dx d vs zs nn nd k1 k2 k3 u1 u2 i ti hz hz4 (by omega) (by rw [List.size_toArray, sizeLine_eq]; omega) ysq hzs (fun r tl => DatIn tl r (rowD xs i)) ?o1 ?o2 loose mean mg mb dp un gd _ _ _ _ _ A₀ h₀ L _ ((g, listOf gs.toArray z1) :: rest) _ _ _ B F X N T rfl (fun p hp => .tail _ (ho p hp)) (by omega) (by omega) ?_
  case o1 =>
    intro hz3 t
    rw [hz5 hz3]
    exact .str _ _
  case o2 =>
    intro a1 b1 c1 e1 hzz l n tl hm
    subst hzz
    rcases hzs with _ | ⟨y1, t1, hzs⟩
    rcases hzs with _ | ⟨y2, t2, hzs⟩
    rcases hzs with _ | ⟨y3, t3, hzs⟩
    rcases hzs with _ | ⟨y4, t4, hzs⟩
    cases hzs
    rw [hz6 _ _ _ _ rfl]
    exact .list hm (.cons (.str _ _) (.cons (.str _ _) (.cons (.str _ _) (.cons (.str _ _) .nil))))
  intro r tl h' tk' F' N' fr hr
  have fr2 := News.offs N fr
  refine wpC_spliced_nil ⟨True.intro, wpC_any ?_⟩
  (try dsimp only)
  have N3 : News h₀ L h' ((g, listOf gs.toArray z1) :: (tl ++ rest)) := fun p hp => N' p (by
    rcases List.mem_cons.mp hp with rfl | hp
    · exact List.mem_append_right _ (.head _)
    · rcases List.mem_append.mp hp with hp | hp
      · exact List.mem_append_left _ hp
      · exact List.mem_append_right _ (.tail _ hp))
  refine append_N F' N3 (fun p hp => ?_) hgl fun h4 F4 N4 => ?_
  · rcases List.mem_append.mp hp with hp | hp
    · exact (fr2 p hp _ (.head _)).symm
    · exact hoff p hp
  · exact hq _ _ r tl F4 N4 fr2 hr
end Mine
end

section
set_option maxHeartbeats 8000000
namespace Mine
local macro_rules | `(tactic| walk_at "none 0") => `(tactic| fail)
theorem resetL8 : True := by
  k_with_none
  w_top off
  trivial
theorem fillL8 : PySem.Challenge.rw_dg5011_01 = PySem.Challenge.rw_dg5011_01 ∧ hd.heap_39 = hd.heap_39 := by
  k_fill
  exact ⟨rfl, rfl⟩
theorem sIn1 (w : World) {st : Stmt} {cs : Scope} (hst : (innerBody w.params)[1]? = some st) (hcs : lawScope w.params = some cs)
  (loose : List Str) (mean : ExcName → Option Value) (mg mb : Str → Option Value) (dp un : Nat) (gd : Option (List Code)) (L fa cA cD D g wn x kd : Addr) (T0 : Str) (t1 t2 tc ti : Tok) (cd v5 : Value) (A₀ : Around) (h₀ : Heap) (m : Str → Option Value) (rest : List (Addr × Obj)) (s : Shared) (Q : Flow → Shared → Prop) (E : Value → Shared → Prop)
  (ws ys : List Value) (xs : List Str) (size c5 i : Int) (hy : StrsAre ys xs) (hl : xs.length ≤ 18) (z2 : Nat) (hwl : ws.length < 100000) (hdp : dp + 40 < recursionLimit) (hun : un + 600 < cLine)
  (B : Below A₀ h₀ [] h₀) (F : Fr h₀ L s.heap (upd "i" (.int i ti) (upd "numbers" v5 (upd "count" (.int c5 tc) (lm x kd g wn D T0 t1 t2 size m))))) (X : (hd.heap_39 w.params).In h₀) (T : Top hd.view_39 loose mean mg mb h₀)
  (N : News h₀ L s.heap ((wn, listOf ws.toArray z2) :: rest)) (ho : (D, LCg.lst ys) ∈ rest) (hoff : ∀ p ∈ rest, p.1 ≠ wn)
  (hq : ∀ h' tk' r tl, Fr h₀ L h' (upd "i" (.int i ti) (upd "numbers" v5 (upd "count" (.int c5 tc) (lm x kd g wn D T0 t1 t2 size m)))) → News h₀ L h' ((wn, listOf (ws ++ [r]).toArray (z2 + 1)) :: (tl ++ rest)) → (∀ q ∈ tl, ∀ p ∈ (wn, listOf ws.toArray z2) :: rest, p.1 ≠ q.1) → DatIn tl r (rowD xs i) → Q .next { s with heap := h', toks := tk' }) :
  wpC (model PySem.Challenge.pw_dg5011_01 w) (ktrTop dp un gd "law" cs L fa cd [("at", cA), ("draw", cD)] []) (exec st (envX "law" cs L fa cd [("at", cA), ("draw", cD)])) Q E s := by
  have yl : ys.length = xs.length := hy.length
  cases hst
  cases hcs
  refine wpC_Expr (wpC_evalMethod ?_)
  (try k_fold)
  k_steps
  refine wpC_callWith (P := fun _ => True) rfl (fun _ _ => ⟨.machine, .inr (.inl rfl), Looks.of_pure rfl⟩) (wpC_evalArgs (wpC_spliced_cons ?_))
  rw [if_neg Bool.false_ne_true]
  refine wpC_evalCall ?_
  (try k_fold)
  k_steps
  refine wpC_callWith (P := (hd.heap_39 w.params).In) rfl (keeps_K (by k_is)) (wpC_evalArgs (wpC_spliced_cons (wpC_any ?_)))
  rw [if_neg Bool.false_ne_true]
  (try dsimp only)
  k_steps
  refine wpC_spliced_cons (wpC_any ?_)
  rw [if_neg Bool.false_ne_true]
  (try dsimp only)
  k_steps
  (try dsimp only)
  refine wpC_spliced_nil ⟨X.keeps F.keep, wpC_any ?_⟩
  refine row_spec w D ys ys.length i ti xs hy (by omega) loose mean mg mb dp un gd _ _ _ _ _ [] A₀ h₀ h₀ L _ ((wn, listOf ws.toArray z2) :: rest) _ _ _ B F X N T rfl (fun p hp => by cases List.mem_singleton.mp hp; exact .tail _ ho) (by omega) (by omega) ?_
  intro r tl h' tk' F' N' fr hr
  have fr2 := News.offs N fr
  refine wpC_spliced_nil ⟨True.intro, wpC_any ?_⟩
  (try dsimp only)
  have N3 : News h₀ L h' ((wn, listOf ws.toArray z2) :: (tl ++ rest)) := fun p hp => N' p (by
    rcases List.mem_cons.mp hp with rfl | hp
    · exact List.mem_append_right _ (.head _)
    · rcases List.mem_append.mp hp with hp | hp
      · exact List.mem_append_left _ hp
      · exact List.mem_append_right _ (.tail _ hp))
  refine append_N F' N3 (fun p hp => ?_) hwl fun h4 F4 N4 => ?_
  · rcases List.mem_append.mp hp with hp | hp
    · exact (fr2 p hp _ (.head _)).symm
    · exact hoff p hp
  · exact hq _ _ r tl F4 N4 fr2 hr
end Mine
end

section
set_option maxHeartbeats 8000000
namespace Mine
theorem resetL9 : True := by
  k_with_none
  w_top off
  trivial
theorem datAll_snoc {news : List (Addr × Obj)} {v : Value} {d : Dat} (hd : DatIn news v d) : ∀ {vs : List Value} {ds : List Dat}, DatAll news vs ds → DatAll news (vs ++ [v]) (ds ++ [d])
  | _, _, .nil => .cons hd .nil
  | _, _, .cons h r => .cons h (datAll_snoc hd r)
theorem fr_map {h₀ h : Heap} {L : Addr} {m m' : Str → Option Value} (F : Fr h₀ L h m) (e : m = m') : Fr h₀ L h m' := e ▸ F
/-- no object of `made` stands at one of these places -/
def OffA (as : List Addr) (made : List (Addr × Obj)) : Prop := ∀ p ∈ made, p.1 ∉ as
abbrev mNum (nl x kd g wn D : Addr) (T0 : Str) (tc t1 t2 : Tok) (c5 size : Int) (m : Str → Option Value) : Str → Option Value := upd "numbers" (.ref nl) (upd "count" (.int c5 tc) (lm x kd g wn D T0 t1 t2 size m))
structure Inv8 (h₀ : Heap) (L it nl g wn : Addr) (M : Str → Option Value) (fixed : List (Addr × Obj)) (n0 n1 : Nat) (s : Shared) (i : Nat) (s' : Shared) : Prop where
  at_ : ∃ h tk m' gs ws ds made z1 z2 oit, s' = { s with heap := h, toks := tk } ∧ Fr h₀ L h m' ∧ (∀ y, y ≠ ("i" : Str) → m' y = M y) ∧ News h₀ L h ((it, oit) :: (g, listOf (List.toArray gs) z1) :: (wn, listOf (List.toArray ws) z2) :: (fixed ++ made)) ∧
    oit.cls = .type "list_iterator" ∧ oit.data = .fields #[.ref nl, .int (i : Nat) 0] ∧ DatAll made gs ds ∧ DatAll made ws ds ∧ (∀ d ∈ ds, kqdOk 8 d = true) ∧ gs.length = n0 + i ∧ ws.length = n1 + i ∧ OffA (it :: g :: wn :: fixed.map (·.1)) made
theorem st8 (w : World) {st : Stmt} {cs : Scope} (hst : (turnBody w.params)[8]? = some st) (hcs : lawScope w.params = some cs)
  (loose : List Str) (mean : ExcName → Option Value) (mg mb : Str → Option Value) (dp un : Nat) (gd : Option (List Code)) (L fa cA cD D g wn x dx d kd nl : Addr) (T0 : Str) (t1 t2 tc : Tok) (cd : Value) (A₀ : Around) (h₀ : Heap) (m : Str → Option Value) (fixed made : List (Addr × Obj)) (s : Shared) (Q : Flow → Shared → Prop) (E : Value → Shared → Prop)
  (gs ws vs ys nvs : List Value) (ds : List Dat) (xs : List Str) (ks : List Int) (size c5 : Int) (hv : StrsAre vs xs) (hy : StrsAre ys xs) (hl : xs.length ≤ 18) (hok : ∀ y ∈ xs, PyData.strOk y = true) (hks : IntsAre nvs ks) (hnl : ks.length ≤ 18) (z1 z2 nn nd zn : Nat) (k1 k2 k3 : Tok) (u1 u2 : Value) (hgl : gs.length ≤ 1000) (hwl : ws.length ≤ 1000) (hdp : dp + 40 < recursionLimit) (hun : un + 600 < cLine)
  (B : Below A₀ h₀ [] h₀) (F : Fr h₀ L s.heap (mNum nl x kd g wn D T0 tc t1 t2 c5 size m)) (X : (hd.heap_39 w.params).In h₀) (T : Top hd.view_39 loose mean mg mb h₀)
  (N : News h₀ L s.heap ((g, listOf gs.toArray z1) :: (wn, listOf ws.toArray z2) :: (fixed ++ made)))
  (ho : ∀ p ∈ [(x, instObj 394 dx), (dx, dictOf (sDict w k1 k2 k3 u1 u2 d) nd), (d, listOf vs.toArray nn), (D, LCg.lst ys), (nl, listOf nvs.toArray zn)], p ∈ fixed)
  (hoff : OffA (g :: wn :: fixed.map (·.1)) made) (hgw : wn ≠ g) (hfg : ∀ p ∈ fixed, p.1 ≠ g) (hfw : ∀ p ∈ fixed, p.1 ≠ wn) (Dg : DatAll made gs ds) (Dw : DatAll made ws ds) (hds : ∀ d ∈ ds, kqdOk 8 d = true)
  (hq : ∀ h' tk' m' gs' ws' ds' made' z1' z2', Fr h₀ L h' m' → (∀ y, y ≠ ("i" : Str) → m' y = mNum nl x kd g wn D T0 tc t1 t2 c5 size m y) → News h₀ L h' ((g, listOf (List.toArray gs') z1') :: (wn, listOf (List.toArray ws') z2') :: (fixed ++ made')) → DatAll made' gs' ds' → DatAll made' ws' ds' → (∀ d ∈ ds', kqdOk 8 d = true) → gs'.length ≤ gs.length + 18 → ws'.length ≤ ws.length + 18 → OffA (g :: wn :: fixed.map (·.1)) made' → Q .next { s with heap := h', toks := tk' }) :
  wpC (model PySem.Challenge.pw_dg5011_01 w) (ktrTop dp un gd "law" cs L fa cd [("at", cA), ("draw", cD)] []) (exec st (envX "law" cs L fa cd [("at", cA), ("draw", cD)])) Q E s := by
  have kl : nvs.length = ks.length := hks.length
  have vl : vs.length = xs.length := hv.length
  have hcs' := hcs
  cases hst
  cases hcs
  have Nl := (N _ (List.mem_cons_of_mem _ (List.mem_cons_of_mem _ (List.mem_append_left made (ho _ (.tail _ (.tail _ (.tail _ (.tail _ (.head _)))))))))).1
  refine wpC_For (nameX_L F rfl (wpAny_pyIter_list (l := nl) (items := nvs.toArray) ⟨_, Nl, rfl, _, rfl⟩ ?_))
  generalize hit : s.heap.objs.size = it
  have lt0 : ∀ p ∈ (g, listOf gs.toArray z1) :: (wn, listOf ws.toArray z2) :: (fixed ++ made), @LT.lt Nat _ p.1 it := fun p hp => hit ▸ Heap.lt_size (N p hp).1
  have hL : @LT.lt Nat _ L it := hit ▸ F.ns.lt
  have h0it : h₀.get? it = none := hit ▸ next_is_new F
  have gi : g ≠ it := Nat.ne_of_lt (lt0 _ (.head _))
  have wi : wn ≠ it := Nat.ne_of_lt (lt0 _ (.tail _ (.head _)))
  have fi : ∀ p ∈ fixed, p.1 ≠ it := fun p hp => Nat.ne_of_lt (lt0 p (.tail _ (.tail _ (List.mem_append_left _ hp))))
  have mi : ∀ p ∈ made, p.1 ≠ it := fun p hp => Nat.ne_of_lt (lt0 p (.tail _ (.tail _ (List.mem_append_right _ hp))))
  refine forListC (x := "i") (nl := nl) (vs := nvs) rfl (Inv8 h₀ L it nl g wn (mNum nl x kd g wn D T0 tc t1 t2 c5 size m) fixed gs.length ws.length s) ?hI ?step ?fin nvs.length 0 _ (by omega) ?start
  case hI =>
    rintro i s' ⟨h, tk, m', gs', ws', ds', made', z1', z2', oit, rfl, F', hm', N', hc, hd, -⟩
    refine ⟨⟨oit, (N' _ (.head _)).1, hc, hd⟩, ⟨_, (N' (nl, listOf nvs.toArray zn) ?_).1, rfl, _, rfl⟩⟩
    exact List.mem_cons_of_mem _ (List.mem_cons_of_mem _ (List.mem_cons_of_mem _ (List.mem_append_left _ (ho _ (.tail _ (.tail _ (.tail _ (.tail _ (.head _)))))))))
  case start =>
    refine ⟨_, s.toks, _, gs, ws, ds, made, z1, z2, { cls := .type "list_iterator", data := .fields #[.ref nl, .int 0 0] }, rfl, F.push _, fun _ _ => rfl, ?_, rfl, rfl, Dg, Dw, hds, rfl, rfl, ?_⟩
    · intro p hp
      rcases List.mem_cons.mp hp with rfl | hp
      · exact ⟨hit ▸ Heap.get?_push_size _ rfl, Nat.ne_of_gt hL, h0it⟩
      · exact ⟨Heap.get?_push_of_some _ (N p hp).1, (N p hp).2⟩
    · intro p hp hm
      rcases List.mem_cons.mp hm with hm | hm
      · exact mi p hp hm
      · exact hoff p hp hm
  case fin =>
    rintro s' h' ⟨h, tk, m', gs', ws', ds', made', z1', z2', oit, rfl, F', hm', N', hc, hd, D1, D2, hk, l1, l2, off⟩ he
    have hk1 : ∀ b o, b ∉ [it] → h.get? b = some o → h'.get? b = some o := fun b o hb e => he b o (fun q => hb (List.mem_singleton.mpr q)) e
    refine hq h' tk m' gs' ws' ds' made' z1' z2' (LCg.fr_but F' hk1 (Nat.ne_of_lt hL) h0it) hm' (LCg.news_but (fun p hp => N' p (.tail _ hp)) hk1 fun p hp => ?_) D1 D2 hk (by omega) (by omega) (fun p hp hm => off p hp (.tail _ hm))
    rcases List.mem_cons.mp hp with rfl | hp
    · exact gi
    · rcases List.mem_cons.mp hp with rfl | hp
      · exact wi
      · rcases List.mem_append.mp hp with hp | hp
        · exact fi p hp
        · exact fun q => off p hp (by rw [q]; exact .head _)
  case step =>
    rintro i v s' h' hv' ⟨h, tk, m', gs', ws', ds', made', z1', z2', oit, rfl, F', hm', N', hc, hd, D1, D2, hk, l1, l2, off⟩ hit' hs'
    have offI : ∀ p ∈ (g, listOf gs'.toArray z1') :: (wn, listOf ws'.toArray z2') :: (fixed ++ made'), p.1 ≠ it := by
      intro p hp
      rcases List.mem_cons.mp hp with rfl | hp
      · exact gi
      · rcases List.mem_cons.mp hp with rfl | hp
        · exact wi
        · rcases List.mem_append.mp hp with hp | hp
          · exact fi p hp
          · exact fun q => off p hp (by rw [q]; exact .head _)
    have hk1 : ∀ b o, b ∉ [it] → h.get? b = some o → h'.get? b = some o := fun b o hb e => (hs'.2 b (fun q => hb (List.mem_singleton.mpr q))).trans e
    obtain ⟨oit', e1, e2, e3⟩ := hit'
    have F1 : Fr h₀ L h' m' := LCg.fr_but F' hk1 (Nat.ne_of_lt hL) h0it
    have N1 : News h₀ L h' ((it, oit') :: (g, listOf gs'.toArray z1') :: (wn, listOf ws'.toArray z2') :: (fixed ++ made')) := by
      intro p hp
      rcases List.mem_cons.mp hp with rfl | hp
      · exact ⟨e1, Nat.ne_of_gt hL, h0it⟩
      · exact LCg.news_but (fun p hp => N' p (.tail _ hp)) hk1 offI p hp
    have ilt : i < nvs.length := (List.getElem?_eq_some_iff.mp hv').1
    obtain ⟨k, t, hvk, hkk⟩ := IntsAre.at hks i v hv'
    subst hvk
    refine storeX_L F1 N1 (fun h2 F2 N2 => ?_) rfl rfl
    have F3 : Fr h₀ L h2 (upd "i" (.int k t) (mNum nl x kd g wn D T0 tc t1 t2 c5 size m)) := fr_map F2 (funext fun y => by
      show (if y = ("i" : Str) then some (Value.int k t) else m' y) = (if y = ("i" : Str) then some (Value.int k t) else mNum nl x kd g wn D T0 tc t1 t2 c5 size m y)
      by_cases hy' : y = ("i" : Str)
      · rw [if_pos hy', if_pos hy']
      · rw [if_neg hy', if_neg hy']; exact hm' y hy')
    have ga : ∀ p ∈ made', p.1 ≠ g := fun p hp q => off p hp (by rw [q]; exact .tail _ (.head _))
    have wa : ∀ p ∈ made', p.1 ≠ wn := fun p hp q => off p hp (by rw [q]; exact .tail _ (.tail _ (.head _)))
    refine wpC_execs_cons (sIn0 w (by exact rfl) hcs' loose mean mg mb dp un gd L fa cA cD D g wn x dx d kd T0 t1 t2 tc t cd (.ref nl) A₀ h₀ m ((it, oit') :: (wn, listOf ws'.toArray z2') :: (fixed ++ made')) _ _ _ gs' vs xs size c5 k hv hl z1' nn nd k1 k2 k3 u1 u2 (by omega) hdp hun B F3 X T (fun p hp => N2 p ?_) (fun p hp => ?_) (fun p hp => ?_) ?_)
    · rcases List.mem_cons.mp hp with rfl | hp
      · exact .tail _ (.head _)
      · rcases List.mem_cons.mp hp with rfl | hp
        · exact .head _
        · exact .tail _ (.tail _ hp)
    · refine .tail _ (.tail _ (List.mem_append_left _ (ho p ?_)))
      rcases hp with _ | ⟨_, _ | ⟨_, _ | ⟨_, hp⟩⟩⟩
      · exact .head _
      · exact .tail _ (.head _)
      · exact .tail _ (.tail _ (.head _))
      · cases hp
    · rcases List.mem_cons.mp hp with rfl | hp
      · exact gi.symm
      · rcases List.mem_cons.mp hp with rfl | hp
        · exact hgw
        · rcases List.mem_append.mp hp with hp | hp
          · exact hfg p hp
          · exact ga p hp
    intro h3 tk3 r tl F4 N4 fr4 hr
    dsimp only
    have nt : ∀ q ∈ tl, q.1 ∉ it :: g :: wn :: fixed.map (·.1) := by
      intro q hq' hm
      rcases List.mem_cons.mp hm with hm | hm
      · exact fr4 q hq' (it, oit') (.tail _ (.head _)) hm.symm
      · rcases List.mem_cons.mp hm with hm | hm
        · exact fr4 q hq' _ (.head _) hm.symm
        · rcases List.mem_cons.mp hm with hm | hm
          · exact fr4 q hq' (wn, listOf ws'.toArray z2') (.tail _ (.tail _ (.head _))) hm.symm
          · obtain ⟨p, hp, e⟩ := List.mem_map.mp hm
            exact fr4 q hq' p (.tail _ (.tail _ (.tail _ (List.mem_append_left _ hp)))) e
    refine wpC_execs_cons (sIn1 w (by exact rfl) hcs' loose mean mg mb dp un gd L fa cA cD D g wn x kd T0 t1 t2 tc t cd (.ref nl) A₀ h₀ m ((it, oit') :: (g, listOf (gs' ++ [r]).toArray (z1' + 1)) :: (fixed ++ (tl ++ made'))) _ _ _ ws' ys xs size c5 k hy hl z2' (by omega) hdp hun B F4 X T (fun p hp => N4 p ?_) ?_ (fun p hp => ?_) ?_)
    · rcases List.mem_cons.mp hp with rfl | hp
      · exact .tail _ (List.mem_append_right _ (.tail _ (.head _)))
      · rcases List.mem_cons.mp hp with rfl | hp
        · exact .tail _ (List.mem_append_right _ (.head _))
        · rcases List.mem_cons.mp hp with rfl | hp
          · exact .head _
          · rcases List.mem_append.mp hp with hp | hp
            · exact .tail _ (List.mem_append_right _ (.tail _ (.tail _ (List.mem_append_left _ hp))))
            · rcases List.mem_append.mp hp with hp | hp
              · exact .tail _ (List.mem_append_left _ hp)
              · exact .tail _ (List.mem_append_right _ (.tail _ (.tail _ (List.mem_append_right _ hp))))
    · exact .tail _ (.tail _ (List.mem_append_left _ (ho _ (.tail _ (.tail _ (.tail _ (.head _)))))))
    · rcases List.mem_cons.mp hp with rfl | hp
      · exact wi.symm
      · rcases List.mem_cons.mp hp with rfl | hp
        · exact hgw.symm
        · rcases List.mem_append.mp hp with hp | hp
          · exact hfw p hp
          · rcases List.mem_append.mp hp with hp | hp
            · exact fun q => nt p hp (by rw [q]; exact .tail _ (.tail _ (.head _)))
            · exact wa p hp
    intro h4 tk4 r2 tl2 F5 N5 fr5 hr2
    dsimp only
    refine wpC_execs_nil ⟨rfl, ⟨h4, tk4, _, gs' ++ [r], ws' ++ [r2], ds' ++ [rowD xs k], tl2 ++ (tl ++ made'), z1' + 1, z2' + 1, oit', rfl, F5, ?_, fun p hp => N5 p ?_, e2, by simpa using e3, ?_, ?_, ?_, ?_, ?_, ?_⟩⟩
    · intro y hy'
      show (if y = ("i" : Str) then _ else _) = _
      rw [if_neg hy']
    · rcases List.mem_cons.mp hp with rfl | hp
      · exact .tail _ (List.mem_append_right _ (.head _))
      · rcases List.mem_cons.mp hp with rfl | hp
        · exact .tail _ (List.mem_append_right _ (.tail _ (.head _)))
        · rcases List.mem_cons.mp hp with rfl | hp
          · exact .head _
          · rcases List.mem_append.mp hp with hp | hp
            · exact .tail _ (List.mem_append_right _ (.tail _ (.tail _ (List.mem_append_left _ hp))))
            · rcases List.mem_append.mp hp with hp | hp
              · exact .tail _ (List.mem_append_left _ hp)
              · exact .tail _ (List.mem_append_right _ (.tail _ (.tail _ (List.mem_append_right _ hp))))
    · exact datAll_snoc (hr.mono fun p hp => List.mem_append_right _ (List.mem_append_left _ hp)) (D1.mono fun p hp => List.mem_append_right _ (List.mem_append_right _ hp))
    · exact datAll_snoc (hr2.mono fun p hp => List.mem_append_left _ hp) (D2.mono fun p hp => List.mem_append_right _ (List.mem_append_right _ hp))
    · intro d' hd'
      rcases List.mem_append.mp hd' with hd' | hd'
      · exact hk d' hd'
      · rw [List.mem_singleton.mp hd']; exact row_ok hok
    · rw [List.length_append, List.length_singleton]; omega
    · rw [List.length_append, List.length_singleton]; omega
    · intro p hp hm
      rcases List.mem_append.mp hp with hp | hp
      · rcases List.mem_cons.mp hm with hm | hm
        · exact fr5 p hp (it, oit') (.tail _ (.head _)) hm.symm
        · rcases List.mem_cons.mp hm with hm | hm
          · exact fr5 p hp _ (.tail _ (.tail _ (.head _))) hm.symm
          · rcases List.mem_cons.mp hm with hm | hm
            · exact fr5 p hp _ (.head _) hm.symm
            · obtain ⟨q, hq', e⟩ := List.mem_map.mp hm
              exact fr5 p hp q (.tail _ (.tail _ (.tail _ (List.mem_append_left _ hq')))) e
      · rcases List.mem_append.mp hp with hp | hp
        · exact nt p hp hm
        · exact off p hp hm
end Mine
end

section
set_option maxHeartbeats 8000000
namespace Mine
local macro_rules | `(tactic| walk_at "none 0") => `(tactic| fail)
local macro_rules | `(tactic| walk_at "none 1") => `(tactic| fail)
theorem resetL10 : True := by
  k_with_none
  w_top off
  trivial
theorem fillL10 : PySem.Challenge.rw_dg5011_01 = PySem.Challenge.rw_dg5011_01 ∧ hd.heap_39 = hd.heap_39 := by
  k_fill
  exact ⟨rfl, rfl⟩
theorem pick0 (a b c e : Value) (r : List Value) : (slicePick (a :: b :: c :: e :: r).toArray (some ((0 : Int) * 4)) (some ((0 : Int) * 4 + 4)) none).toList = [a, b, c, e] := by
  have hb := bounds_clp ((0 : Int) * 4) ((0 : Int) * 4 + 4) (a :: b :: c :: e :: r).toArray.size
  have e1 : clp ((0 : Int) * 4) (a :: b :: c :: e :: r).toArray.size = 0 := by unfold clp; simp only [List.size_toArray]; omega
  have e2 : clp ((0 : Int) * 4 + 4) (a :: b :: c :: e :: r).toArray.size = 4 := by
    unfold clp
    rw [if_neg (by omega), List.size_toArray]
    simp only [List.length_cons]
    omega
  rw [e1, e2] at hb
  rw [kmk_pick_nat _ (a := 0) (b := 4) hb]
  rfl
theorem len5 {a b c e : Value} {r : List Value} (h : r.length ≤ 14) : (a :: b :: c :: e :: r).length < 2 ^ 20 := by simp only [List.length_cons]; omega
theorem size5 {a b c e : Value} {r : List Value} (h : r.length ≤ 14) : (a :: b :: c :: e :: r).toArray.size ≤ sizeLine := by rw [List.size_toArray, sizeLine_eq]; simp only [List.length_cons]; omega
/-- two places apart, said so that omega does not split upon it -/
def NeA (a b : Nat) : Prop := a ≠ b
theorem NeA.out {a b : Nat} (h : NeA a b) : a ≠ b := h
theorem NeA.out' {a b : Nat} (h : NeA a b) : b ≠ a := Ne.symm h
def AllNe (d : Nat) : List (Addr × Obj) → Prop
  | [] => True
  | p :: r => NeA p.1 d ∧ AllNe d r
theorem allNe_of {d : Addr} : ∀ {l : List (Addr × Obj)}, (∀ p ∈ l, p.1 ≠ d) → AllNe d l
  | [], _ => trivial
  | p :: _, h => ⟨h p (.head _), allNe_of fun q hq => h q (.tail _ hq)⟩
theorem AllNe.mem {d : Addr} : ∀ {l : List (Addr × Obj)}, AllNe d l → ∀ p ∈ l, p.1 ≠ d
  | [], _, _, h => nomatch h
  | _ :: _, x, p, h => by
    rcases List.mem_cons.mp h with rfl | h
    · exact x.1
    · exact AllNe.mem x.2 p h
local macro_rules | `(tactic| walk_at "my_steps") => `(tactic| repeat' (first | (k_unfold; (try dsimp only)) | (k_end; wrow_close) | (walk1; (try dsimp only)) | (dsimp only; walk1) | (leave1; walk_say "STEP leave1"; try dsimp only) | fail "no step"))
local macro_rules | `(tactic| k_ne) => `(tactic| (refine neN ?_; (try dsimp only); first | exact NeA.out (by with_reducible assumption) | exact NeA.out' (by with_reducible assumption)))
local macro_rules | `(tactic| k_all) => `(tactic| with_reducible assumption)
local macro_rules | `(tactic| walk_at "getMethod ref") => `(tactic| (k_here; k_dflt (refine' hk_method ?k1 ?k2 ?k3 ?k4 ?k5 ?_; (case k1 => k_asm); (case k2 => k_asm); (case k3 => k_inst); (case k4 => k_is); (case k5 => k_is); k_whole)))
local macro_rules | `(tactic| walk_at "getAttr ref") => `(tactic| (k_here; k_dflt (
  (refine' hk_bound ?k1 ?k2 ?k3 ?k4 ?k5 ?k6 ?k7 ?k8 ?k9 ?k10 ?k11 ?k12 ?k13 ?_; (case k4 => k_inst); (case k1 => k_asm); (case k2 => k_asm); (case k3 => k_asm); (case k5 => k_is); (case k6 => k_is); (case k7 => k_is); (case k8 => k_is); (case k9 => k_is); (case k10 => k_is); (case k11 => k_is); (case k12 => decide +kernel); (case k13 => k_get); k_whole; intro q' h' F' N' l1; (try k_lt l1); (try k_sweep)))))
local macro_rules | `(tactic| walk_at "getAttr ref") => `(tactic| (k_here; (with_reducible show wpAny _ _ (getAttr (Value.ref _) (Str.ofString "type") _) _ _ _); k_dflt (
  (refine' td_attr ?F ?X ?N ?a ?b ?f ?_; (case F => k_asm); (case X => k_asm); (case f => first | exact fnd0 _ | exact fnd1 _ | exact fnd2 _ | exact fnd3 _); (case N => k_asm); (case a => k_mem); (case b => k_mem); k_whole))))
local macro_rules | `(tactic| walk_at "callWith ref") => `(tactic| (k_here; k_dflt (refine' callWith_M ?k1 ?k2 ?k3 ?k4 ?_; (case k1 => k_asm); (case k2 => k_asm); (case k3 => k_mem); (case k4 => k_is); k_whole)))
local macro_rules | `(tactic| walk_at "call ref") => `(tactic| (k_here; (with_reducible show wpAny _ _ (call (Value.ref 266) _) _ _ _); k_dflt (
  (refine' Con.use (td_get0 _ _ _ _ _ _ _) ?B ?F ?X ?N ?T ?hk ?ho ?d ?u ?_);
  (case B => k_asm); (case F => k_asm); (case X => k_asm); (case N => k_asm); (case T => k_asm); (case hk => rfl); (case ho => exact List.forall_mem_cons.2 ⟨by k_mem, List.forall_mem_cons.2 ⟨by k_mem, fun _ h => nomatch h⟩⟩); (case d => first | omega | ktr_room | (simp only [Around.deeper, Around.in1]; omega)); (case u => first | omega | (simp only [Around.deeper, Around.in1]; omega)); k_whole; intro r tl h' tk' F' N' fr hr; obtain ⟨hr1, hr2⟩ := hr; subst hr1 hr2; clear fr; rw [List.nil_append] at N'; refine handed_on rfl ?_; (try dsimp only); (try k_sweep))))
local macro_rules | `(tactic| walk_at "call ref") => `(tactic| (k_here; k_dflt (
  (refine' call_meth (f := .ref 391) ?N ?hq ?_; (case N => k_asm); (case hq => k_mem));
  (refine' get_code _ _ _ _ _ _ _ _ _ _ _ _ _ _ _ _ _ _ ?hz ?hl ?hs _ _ _ _ _ _ _ _ _ _ _ _ _ _ _ _ _ _ _ _ _ _ ?B ?F ?X ?N ?T ?hk ?ho ?d ?u ?_);
  (case N => k_asm); (case B => k_asm); (case F => k_asm); (case X => k_asm); (case T => k_asm); (case hk => rfl); (case ho => exact List.forall_mem_cons.2 ⟨by k_mem, List.forall_mem_cons.2 ⟨by k_mem, List.forall_mem_cons.2 ⟨by k_mem, fun _ h => nomatch h⟩⟩⟩); (case hz => exact pick0 _ _ _ _ _); (case hl => exact len5 (by assumption)); (case hs => exact size5 (by assumption)); (case d => first | omega | ktr_room | (simp only [Around.deeper, Around.in1]; omega)); (case u => first | omega | (simp only [Around.deeper, Around.in1]; omega)); k_whole; intro y' dy' h' tk' F' N' fr; have fr2 := News.offs (by assumption) fr; clear fr; have ne1 := allNe_of (fr2 _ (.head _)); have ne2 := allNe_of (fr2 _ (.tail _ (.head _))); clear fr2; simp only [AllNe] at ne1 ne2; (repeat (obtain ⟨_, ne1⟩ := ne1)); (repeat (obtain ⟨_, ne2⟩ := ne2)); rw [List.cons_append, List.cons_append, List.nil_append] at N'; (try dsimp only); (try k_sweep))))
local macro_rules | `(tactic| walk_at "call ref") => `(tactic| (k_here; k_dflt (
  (refine' call_meth (f := .ref 137) ?N ?hq ?_; (case N => k_asm); (case hq => k_mem));
  (refine' set_code _ _ _ _ _ _ _ _ _ _ _ _ _ _ _ ?hl ?n1 ?n2 ?n3 _ _ _ _ _ _ _ _ _ _ _ _ _ _ _ _ _ _ _ _ _ _ _ ?B ?F ?X ?N ?T ?hk ?ho ?hU ?d ?u ?_);
  (case N => k_asm); (case B => k_asm); (case F => k_asm); (case X => k_asm); (case T => k_asm); (case hk => rfl); (case ho => exact List.forall_mem_cons.2 ⟨by k_mem, List.forall_mem_cons.2 ⟨by k_mem, List.forall_mem_cons.2 ⟨by k_mem, fun _ h => nomatch h⟩⟩⟩); (case hU => k_updF); (case n1 => k_ne); (case n2 => k_ne); (case n3 => k_ne); (case hl => exact len5 (by assumption)); (case d => first | omega | ktr_room | (simp only [Around.deeper, Around.in1]; omega)); (case u => first | omega | (simp only [Around.deeper, Around.in1]; omega)); k_whole; intro t' nn' h' tk' F' N'; (try dsimp only); (try dsimp only at N'); (try k_sweep))))
theorem glue9 {L g wn x D kd l1 l2 : Addr} {T0 y0 : Str} {t1 t2 tc ta tb te tf : Tok} {h₀ h' : Heap} {m : Str → Option Value} {rest : List (Addr × Obj)} {s : Shared} {Q : Flow → Shared → Prop} {gs ws : List Value} {size c5 : Int} {z1 z2 tk' : Nat} {vf : Value} {a1 a2 a3 a4 a5 a6 a7 b1 b2 b3 b4 : Addr × Obj} {P1 P2 P3 P4 P5 P6 P7 R1 R2 R3 R4 S1 S2 S3 S4 S5 S6 S7 S8 U1 U2 U3 U4 : Prop}
  (hq : ∀ (h' : Heap) (tk' : Nat) (l1 l2 : Addr) (vf : Value) (ta tb te tf : Tok), Fr h₀ L h' (upd "first" vf (upd "count" (.int c5 tc) (lm x kd g wn D T0 t1 t2 size m))) →
    News h₀ L h' ((g, listOf (gs ++ [Value.ref l1]).toArray (z1 + 1)) :: (wn, listOf (ws ++ [Value.ref l2]).toArray (z2 + 1)) :: (l1, listOf #[Value.str y0 ta, Value.str "zz" tb] 0) :: (l2, listOf #[Value.str y0 te, Value.str "zz" tf] 0) :: rest) →
    (@LT.lt Nat _ g l1 ∧ @LT.lt Nat _ wn l1 ∧ AllLt l1 rest) → (@LT.lt Nat _ g l2 ∧ @LT.lt Nat _ wn l2 ∧ AllLt l2 rest) → Q .next { s with heap := h', toks := tk' })
  (kF : Fr h₀ L h' (upd "first" vf (upd "count" (.int c5 tc) (lm x kd g wn D T0 t1 t2 size m))))
  (kN : News h₀ L h' ((l2, listOf #[Value.str y0 te, Value.str "zz" tf] 0) :: (l1, listOf #[Value.str y0 ta, Value.str "zz" tb] 0) :: a1 :: a2 :: a3 :: a4 :: a5 :: a6 :: a7 :: (g, listOf (gs ++ [Value.ref l1]).toArray (z1 + 1)) :: (wn, listOf (ws ++ [Value.ref l2]).toArray (z2 + 1)) :: b1 :: b2 :: b3 :: b4 :: rest))
  (q1 : P1 ∧ P2 ∧ P3 ∧ P4 ∧ P5 ∧ P6 ∧ P7 ∧ @LT.lt Nat _ g l1 ∧ @LT.lt Nat _ wn l1 ∧ R1 ∧ R2 ∧ R3 ∧ R4 ∧ AllLt l1 rest) (q2 : S1 ∧ S2 ∧ S3 ∧ S4 ∧ S5 ∧ S6 ∧ S7 ∧ S8 ∧ @LT.lt Nat _ g l2 ∧ @LT.lt Nat _ wn l2 ∧ U1 ∧ U2 ∧ U3 ∧ U4 ∧ AllLt l2 rest) : Q .next { s with heap := h', toks := tk' } := by
  have sub : ∀ p ∈ (g, listOf (gs ++ [Value.ref l1]).toArray (z1 + 1)) :: (wn, listOf (ws ++ [Value.ref l2]).toArray (z2 + 1)) :: (l1, listOf #[Value.str y0 ta, Value.str "zz" tb] 0) :: (l2, listOf #[Value.str y0 te, Value.str "zz" tf] 0) :: rest,
      p ∈ ((l2, listOf #[Value.str y0 te, Value.str "zz" tf] 0) :: (l1, listOf #[Value.str y0 ta, Value.str "zz" tb] 0) :: a1 :: a2 :: a3 :: a4 :: a5 :: a6 :: a7 :: (g, listOf (gs ++ [Value.ref l1]).toArray (z1 + 1)) :: (wn, listOf (ws ++ [Value.ref l2]).toArray (z2 + 1)) :: b1 :: b2 :: b3 :: b4 :: rest) := by
    intro p hp
    simp only [List.mem_cons] at hp ⊢
    rcases hp with hp | hp | hp | hp | hp <;> simp [hp]
  exact hq h' tk' l1 l2 vf ta tb te tf kF (fun p hp => kN p (sub p hp)) ⟨q1.2.2.2.2.2.2.2.1, q1.2.2.2.2.2.2.2.2.1, q1.2.2.2.2.2.2.2.2.2.2.2.2.2⟩ ⟨q2.2.2.2.2.2.2.2.2.1, q2.2.2.2.2.2.2.2.2.2.1, q2.2.2.2.2.2.2.2.2.2.2.2.2.2.2⟩
theorem st9 (w : World) {st : Stmt} {cs : Scope} (hst : (turnBody w.params)[9]? = some st) (hcs : lawScope w.params = some cs)
  (loose : List Str) (mean : ExcName → Option Value) (mg mb : Str → Option Value) (dp un : Nat) (gd : Option (List Code)) (L fa cA cD D g wn x dx d kd : Addr) (T0 : Str) (t1 t2 tc : Tok) (cd : Value) (A₀ : Around) (h₀ : Heap) (m : Str → Option Value) (rest : List (Addr × Obj)) (s : Shared) (Q : Flow → Shared → Prop) (E : Value → Shared → Prop)
  (gs ws : List Value) (y0 : Str) (q0 q1 : Tok) (v1 v2 v3 : Value) (vr yr : List Value) (size c5 : Int) (z1 z2 nn nd ny : Nat) (k1 k2 k3 : Tok) (u1 u2 : Value) (hvr : vr.length ≤ 14) (hyr : yr.length ≤ 17) (hgl : gs.length ≤ 1000) (hwl : ws.length ≤ 1000) (hc5 : 0 < c5) (hdp : dp + 40 < recursionLimit) (hun : un + 600 < cLine)
  (B : Below A₀ h₀ [] h₀) (F : Fr h₀ L s.heap (upd "count" (.int c5 tc) (lm x kd g wn D T0 t1 t2 size m))) (X : (hd.heap_39 w.params).In h₀) (T : Top hd.view_39 loose mean mg mb h₀)
  (N : News h₀ L s.heap ((g, listOf gs.toArray z1) :: (wn, listOf ws.toArray z2) :: (x, instObj 394 dx) :: (dx, dictOf (sDict w k1 k2 k3 u1 u2 d) nd) :: (d, listOf (Value.str y0 q0 :: v1 :: v2 :: v3 :: vr).toArray nn) :: (D, listOf (Value.str y0 q1 :: yr).toArray ny) :: rest))
  (g1 : NeA wn g) (g2 : NeA x g) (g3 : NeA dx g) (g4 : NeA d g) (g5 : NeA D g) (g9 : ∀ p ∈ rest, p.1 ≠ g)
  (w2 : NeA x wn) (w3 : NeA dx wn) (w4 : NeA d wn) (w5 : NeA D wn) (w9 : ∀ p ∈ rest, p.1 ≠ wn) (d2 : NeA x d) (d3 : NeA dx d) (d5 : NeA D d) (d9 : ∀ p ∈ rest, p.1 ≠ d) (xd : NeA x dx)
  (hq : ∀ (h' : Heap) (tk' : Nat) (l1 l2 : Addr) (vf : Value) (ta tb te tf : Tok), Fr h₀ L h' (upd "first" vf (upd "count" (.int c5 tc) (lm x kd g wn D T0 t1 t2 size m))) →
    News h₀ L h' ((g, listOf (gs ++ [Value.ref l1]).toArray (z1 + 1)) :: (wn, listOf (ws ++ [Value.ref l2]).toArray (z2 + 1)) :: (l1, listOf #[Value.str y0 ta, Value.str "zz" tb] 0) :: (l2, listOf #[Value.str y0 te, Value.str "zz" tf] 0) :: rest) →
    (@LT.lt Nat _ g l1 ∧ @LT.lt Nat _ wn l1 ∧ AllLt l1 rest) → (@LT.lt Nat _ g l2 ∧ @LT.lt Nat _ wn l2 ∧ AllLt l2 rest) → Q .next { s with heap := h', toks := tk' }) :
  wpAny (model PySem.Challenge.pw_dg5011_01 w) (ktrTop dp un gd "law" cs L fa cd [("at", cA), ("draw", cD)] []) (exec st (envX "law" cs L fa cd [("at", cA), ("draw", cD)])) Q E s := by
  cases hst
  cases hcs
  (try k_fold)
  walk_at "my_steps"
  rename Fr h₀ L _ _ => kF
  rename News h₀ L _ _ => kN
  rw [List.push_toArray] at kN
  exact glue9 hq kF kN (by assumption) (by assumption)
end Mine
end

section
set_option maxHeartbeats 4000000
namespace Mine
local macro_rules | `(tactic| walk_at "none 0") => `(tactic| fail)
local macro_rules | `(tactic| walk_at "none 1") => `(tactic| fail)
local macro_rules | `(tactic| walk_at "none 2") => `(tactic| fail)
local macro_rules | `(tactic| walk_at "none 3") => `(tactic| fail)
local macro_rules | `(tactic| walk_at "none 4") => `(tactic| fail)
local macro_rules | `(tactic| walk_at "none 5") => `(tactic| fail)
local macro_rules | `(tactic| walk_at "none 6") => `(tactic| fail)
local macro_rules | `(tactic| walk_at "none 7") => `(tactic| fail)
local macro_rules | `(tactic| walk_at "none 8") => `(tactic| fail)
local macro_rules | `(tactic| walk_at "none 9") => `(tactic| fail)
local macro_rules | `(tactic| walk_at "none 10") => `(tactic| fail)
theorem resetT1 : True := by
  k_with_none
  w_top off
  trivial
theorem wp_execs_app {M : Model} {A : Around} {env : Env} {rest : List Stmt} {Q : Flow → Shared → Prop} {E : Value → Shared → Prop} {Γ : _root_.PySem.Ctx} (hΓ : Γ.In A) (hu : Up Γ) : ∀ (l : List Stmt) (p : Pos) (s : Shared),
    Sem.wp M Γ (execs l env) (fun f _ s' => match f with | .next => wpC M A (execs rest env) Q E s' | f => Q f s') (fun e _ s' => E e s') p s → Sem.wp M Γ (execs (l ++ rest) env) (fun a _ s' => Q a s') (fun e _ s' => E e s') p s
  | [], p, s, h => (show wpC M A (execs rest env) Q E s from h) Γ p hΓ hu
  | st :: l, p, s, h => by
    rw [execs_cons, Sem.wp_bind'] at h
    show Sem.wp M Γ (execs (st :: (l ++ rest)) env) _ _ p s
    rw [execs_cons, Sem.wp_bind']
    refine Sem.wp_mono M Γ _ (fun f p' s' h' => ?_) (fun _ _ _ h' => h') p s h
    cases f with
    | next => exact wp_execs_app hΓ hu l p' s' h'
    | _ => exact h'
theorem wpC_execs_app {M : Model} {A : Around} {env : Env} {l rest : List Stmt} {Q : Flow → Shared → Prop} {E : Value → Shared → Prop} {s : Shared} (h : wpC M A (execs l env) (fun f s' => match f with | .next => wpC M A (execs rest env) Q E s' | f => Q f s') E s) : wpC M A (execs (l ++ rest) env) Q E s :=
  fun Γ p hΓ hu => wp_execs_app hΓ hu l p s (h Γ p hΓ hu)
theorem upd_self {x : Str} {v : Value} {m : Str → Option Value} (h : m x = some v) : upd x v m = m := funext fun y => by
  show (if y = x then some v else m y) = m y
  split
  · rename_i e; rw [e, h]
  · rfl
theorem word_in (ns : List Int) (a : Int) (i : Nat) : wordAt ns a i ∈ words7 := by
  unfold wordAt
  generalize drawOf ns (7 * a + 1 + (i : Int).fmod 6) + i = z
  have h : (z.fmod 7).toNat < 7 := by
    rw [Int.fmod_eq_emod_of_nonneg _ (by decide)]; omega
  generalize (z.fmod 7).toNat = k at h
  have : ∀ j : Fin 7, words7.getD j.val Str.empty ∈ words7 := by decide +kernel
  exact this ⟨k, h⟩
theorem words_ok : ∀ y ∈ words7, PyData.strOk y = true := by decide +kernel
/-- the row of a turn -/
def rowOf (ns : List Int) (a : Int) (size : Int) : List Str := (List.range size.toNat).map (wordAt ns a)
theorem row_in (ns : List Int) (a size : Int) : ∀ x ∈ rowOf ns a size, x ∈ words7 := by
  intro x hx
  obtain ⟨i, _, rfl⟩ := List.mem_map.mp hx
  exact word_in ns a i
theorem row_len (ns : List Int) (a size : Int) : (rowOf ns a size).length = size.toNat := by unfold rowOf; simp
/-- objects of other make stand at other places -/
theorem news_ne {h₀ h : Heap} {L a b : Addr} {oa ob : Obj} {l : List (Addr × Obj)} (N : News h₀ L h l) (ha : (a, oa) ∈ l) (hb : (b, ob) ∈ l) (hc : oa.cls ≠ ob.cls) : a ≠ b := by
  rintro rfl
  have x := (N _ ha).1
  have y := (N _ hb).1
  exact hc (congrArg Obj.cls (Option.some.inj (x.symm.trans y)))
local macro_rules | `(tactic| walk_at "perm") => `(tactic| (intro p hp; (simp only [List.mem_cons, List.mem_append, List.cons_append, List.nil_append, List.not_mem_nil, or_false, false_or] at hp ⊢); (repeat' (refine Or.elim hp (fun hp => ?_) (fun hp => ?_))) <;> simp only [hp, true_or, or_true]))
end Mine
end

section
set_option maxHeartbeats 8000000
namespace Mine
theorem resetT2 : True := by
  k_with_none
  w_top off
  trivial
theorem fillT2 : PySem.Challenge.rw_dg5011_01 = PySem.Challenge.rw_dg5011_01 ∧ hd.heap_39 = hd.heap_39 := by
  k_fill
  exact ⟨rfl, rfl⟩
local macro_rules | `(tactic| walk_at "perm") => `(tactic| (intro p hp; (simp only [List.mem_cons, List.mem_append, List.cons_append, List.nil_append, List.not_mem_nil, or_false, false_or] at hp ⊢); (repeat' (refine Or.elim hp (fun hp => ?_) (fun hp => ?_))) <;> simp only [hp, true_or, or_true]))
theorem st9neg (w : World) {st : Stmt} {cs : Scope} (hst : (turnBody w.params)[9]? = some st) (hcs : lawScope w.params = some cs)
  (loose : List Str) (mean : ExcName → Option Value) (mg mb : Str → Option Value) (dp un : Nat) (gd : Option (List Code)) (L fa cA cD : Addr) (tc : Tok) (cd : Value) (h₀ : Heap) (m : Str → Option Value) (news : List (Addr × Obj)) (s : Shared) (Q : Flow → Shared → Prop) (E : Value → Shared → Prop) (c5 : Int) (hc5 : ¬ 0 < c5)
  (F : Fr h₀ L s.heap (upd "count" (.int c5 tc) m)) (X : (hd.heap_39 w.params).In h₀) (T : Top hd.view_39 loose mean mg mb h₀) (N : News h₀ L s.heap news)
  (hq : ∀ tk', Q .next { s with toks := tk' }) :
  wpAny (model PySem.Challenge.pw_dg5011_01 w) (ktrTop dp un gd "law" cs L fa cd [("at", cA), ("draw", cD)] []) (exec st (envX "law" cs L fa cd [("at", cA), ("draw", cD)])) Q E s := by
  cases hst
  cases hcs
  (try k_fold)
  k_steps
  all_goals first | exact hq _ | (exfalso; omega)
theorem pair_ok {c : Int} {xs : List Str} (h : ∀ y ∈ xs, PyData.strOk y = true) : kqdOk 8 (.list [.int c, .list (xs.map Dat.str)]) = true := by
  show List.all [Dat.int c, .list (xs.map Dat.str)] (kqdOk 7) = true
  simp only [List.all_cons, List.all_nil, Bool.and_true, Bool.and_eq_true]
  refine ⟨rfl, ?_⟩
  show List.all (xs.map Dat.str) (kqdOk 6) = true
  rw [List.all_eq_true]
  intro d hd
  obtain ⟨y, hy, rfl⟩ := List.mem_map.mp hd
  exact h y hy
theorem zz_ok {y : Str} (h : PyData.strOk y = true) : kqdOk 8 (.list [.str y, .str "zz"]) = true := by
  show List.all [Dat.str y, .str "zz"] (kqdOk 7) = true
  simp only [List.all_cons, List.all_nil, Bool.and_true, Bool.and_eq_true]
  exact ⟨h, by show PyData.strOk "zz" = true; decide +kernel⟩
theorem strs4 {vs : List Value} {xs : List Str} (h : StrsAre vs xs) (hl : 4 ≤ xs.length) : ∃ y0 xr q0 v1 v2 v3 vr, xs = y0 :: xr ∧ vs = Value.str y0 q0 :: v1 :: v2 :: v3 :: vr ∧ vr.length + 4 = xs.length := by
  have e := h.length
  cases h with
  | nil => simp at hl
  | cons y t r =>
    cases r with
    | nil => simp at hl
    | cons y1 t1 r1 =>
      cases r1 with
      | nil => simp at hl
      | cons y2 t2 r2 =>
        cases r2 with
        | nil => simp at hl
        | cons y3 t3 r3 =>
          refine ⟨_, _, _, _, _, _, _, rfl, rfl, ?_⟩
          simp only [List.length_cons] at e ⊢
          omega
theorem strs1 {ys : List Value} {y0 : Str} {xr : List Str} (h : StrsAre ys (y0 :: xr)) : ∃ q1 yr, ys = Value.str y0 q1 :: yr ∧ yr.length + 1 = (y0 :: xr).length := by
  have e := h.length
  cases h with
  | cons y t r => exact ⟨_, _, rfl, by simp only [List.length_cons] at e ⊢; omega⟩
theorem turn (w : World) {cs : Scope} (hcs : lawScope w.params = some cs)
  (loose : List Str) (mean : ExcName → Option Value) (mg mb : Str → Option Value) (dp un : Nat) (gd : Option (List Code)) (L fa cA cD dr kd it g wn : Addr) (cd : Value) (A₀ : Around) (h₀ : Heap) (m : Str → Option Value) (made : List (Addr × Obj)) (s : Shared) (Q : Flow → Shared → Prop) (E : Value → Shared → Prop)
  (gs ws drs : List Value) (ds : List Dat) (ns : List Int) (oA oD ko oit : Obj) (at' : Int) (ta : Tok) (z1 z2 ndr : Nat) (hA : oA.data = .cell (some (.int at' ta))) (hD : oD.data = .cell (some (.ref dr))) (hI : IntsAre drs ns) (hnl : ns.length = 21) (ha0 : 0 ≤ at') (ha2 : at' ≤ 2)
  (hko : ko.IsDictOf (PySem.strKind PW w) [(("XDR" : Str), .ref 394)]) (hkl : (kd == sysModules) = false) (hgl : gs.length ≤ 500) (hwl : ws.length ≤ 500) (hdp : dp + 100 < recursionLimit) (hun : un + 1000 < cLine)
  (B : Below A₀ h₀ [] h₀) (F : Fr h₀ L s.heap m) (mk : m "kinds" = some (.ref kd)) (mgot : m "got" = some (.ref g)) (mw : m "want" = some (.ref wn)) (X : (hd.heap_39 w.params).In h₀) (T : Top hd.view_39 loose mean mg mb h₀)
  (N : News h₀ L s.heap ((cA, oA) :: (cD, oD) :: (dr, listOf drs.toArray ndr) :: (kd, ko) :: (it, oit) :: (g, listOf gs.toArray z1) :: (wn, listOf ws.toArray z2) :: made))
  (hoff : OffA [cA, cD, dr, kd, it, g, wn] made) (hgw : wn ≠ g) (fg1 : cA ≠ g) (fg2 : cD ≠ g) (fg3 : dr ≠ g) (fg4 : kd ≠ g) (fg5 : it ≠ g) (fw1 : cA ≠ wn) (fw2 : cD ≠ wn) (fw3 : dr ≠ wn) (fw4 : kd ≠ wn) (fw5 : it ≠ wn)
  (Dg : DatAll made gs ds) (Dw : DatAll made ws ds) (hds : ∀ d ∈ ds, kqdOk 8 d = true)
  (hq : ∀ h' tk' m' gs' ws' ds' made' z1' z2', Fr h₀ L h' m' → m' "kinds" = some (.ref kd) → m' "got" = some (.ref g) → m' "want" = some (.ref wn) →
    News h₀ L h' ((cA, oA) :: (cD, oD) :: (dr, listOf drs.toArray ndr) :: (kd, ko) :: (it, oit) :: (g, listOf (List.toArray gs') z1') :: (wn, listOf (List.toArray ws') z2') :: made') → DatAll made' gs' ds' → DatAll made' ws' ds' → (∀ d ∈ ds', kqdOk 8 d = true) →
    gs'.length ≤ gs.length + 30 → ws'.length ≤ ws.length + 30 → OffA [cA, cD, dr, kd, it, g, wn] made' → Q .next { s with heap := h', toks := tk' }) :
  wpC (model PySem.Challenge.pw_dg5011_01 w) (ktrTop dp un gd "law" cs L fa cd [("at", cA), ("draw", cD)] []) (execs (turnBody w.params) (envX "law" cs L fa cd [("at", cA), ("draw", cD)])) Q E s := by
  obtain ⟨a0, e0⟩ : ∃ st, (turnBody w.params)[0]? = some st := ⟨_, rfl⟩
  obtain ⟨a1, e1⟩ : ∃ st, (turnBody w.params)[1]? = some st := ⟨_, rfl⟩
  obtain ⟨a2, e2⟩ : ∃ st, (turnBody w.params)[2]? = some st := ⟨_, rfl⟩
  obtain ⟨a3, e3⟩ : ∃ st, (turnBody w.params)[3]? = some st := ⟨_, rfl⟩
  obtain ⟨a4, e4⟩ : ∃ st, (turnBody w.params)[4]? = some st := ⟨_, rfl⟩
  obtain ⟨a5, e5⟩ : ∃ st, (turnBody w.params)[5]? = some st := ⟨_, rfl⟩
  obtain ⟨a6, e6⟩ : ∃ st, (turnBody w.params)[6]? = some st := ⟨_, rfl⟩
  obtain ⟨a7, e7⟩ : ∃ st, (turnBody w.params)[7]? = some st := ⟨_, rfl⟩
  obtain ⟨a8, e8⟩ : ∃ st, (turnBody w.params)[8]? = some st := ⟨_, rfl⟩
  obtain ⟨a9, e9⟩ : ∃ st, (turnBody w.params)[9]? = some st := ⟨_, rfl⟩
  have eb : turnBody w.params = [a0, a1, a2, a3, a4, a5, a6, a7, a8, a9] := by
    refine List.ext_getElem? fun i => ?_
    match i with
    | 0 => exact e0
    | 1 => exact e1
    | 2 => exact e2
    | 3 => exact e3
    | 4 => exact e4
    | 5 => exact e5
    | 6 => exact e6
    | 7 => exact e7
    | 8 => exact e8
    | 9 => exact e9
    | n + 10 =>
      have hl : (turnBody w.params).length = 10 := rfl
      rw [List.getElem?_eq_none (by rw [hl]; omega), List.getElem?_eq_none (by simp)]
  rw [eb]
  -- the size
  refine wpC_execs_cons (wpC_any (st0 w e0 hcs loose mean mg mb dp un gd L fa cA cD dr cd h₀ m ((kd, ko) :: (it, oit) :: (g, listOf gs.toArray z1) :: (wn, listOf ws.toArray z2) :: made) s _ E oA oD drs ndr ns at' ta F X N T hA hD hI hnl ha0 ha2 fun h1 tk1 t2 F1 N1 => ?_))
  dsimp only
  have hs0 : 0 ≤ (drawOf ns (7 * at') + 9 * at').fmod 19 := by rw [Int.fmod_eq_emod_of_nonneg _ (by decide)]; omega
  have hs1 : (drawOf ns (7 * at') + 9 * at').fmod 19 ≤ 18 := by rw [Int.fmod_eq_emod_of_nonneg _ (by decide)]; omega
  generalize (drawOf ns (7 * at') + 9 * at').fmod 19 = size at hs0 hs1 F1
  -- the row
  refine wpC_execs_cons (wpC_any (st1 w e1 hcs loose mean mg mb dp un gd L fa cA cD dr cd h₀ m ((kd, ko) :: (it, oit) :: (g, listOf gs.toArray z1) :: (wn, listOf ws.toArray z2) :: made) _ _ E oA oD drs ndr ns at' size ta t2 F1 X N1 T hA hD hI hnl ha0 ha2 hs0 hs1 (by omega) (by omega) fun h2 tk2 D ys F2 N2 hy hD2 => ?_))
  dsimp only
  have hx := row_in ns at' size
  have hxl := row_len ns at' size
  have hy : StrsAre ys (rowOf ns at' size) := hy
  generalize rowOf ns at' size = xs at hx hxl hy
  have hl : xs.length ≤ 18 := by omega
  have hsz : size = xs.length := by omega
  have hok : ∀ y ∈ xs, PyData.strOk y = true := fun y h => words_ok y (hx y h)
  -- the text
  refine wpC_execs_cons (wpC_any (st2 w e2 hcs loose mean mg mb dp un gd L fa cA cD D cd h₀ _ _ _ _ E ys xs hy hx hl F2 X N2 T fun h3 tk3 t1 F3 N3 => ?_))
  dsimp only
  have em : upd "kinds" (.ref kd) (upd "got" (.ref g) (upd "want" (.ref wn) m)) = m := by rw [upd_self mw, upd_self mgot, upd_self mk]
  have F3' : Fr h₀ L h3 (upd "text" (.str (textOf xs) t1) (upd "row" (.ref D) (upd "size" (.int size t2) (upd "kinds" (.ref kd) (upd "got" (.ref g) (upd "want" (.ref wn) m)))))) := by rw [em]; exact F3
  -- the sentence
  refine wpC_execs_cons (wpC_any (st3 w e3 hcs loose mean mg mb dp un gd L fa cA cD D kd cd A₀ h₀ (upd "got" (.ref g) (upd "want" (.ref wn) m)) ((cD, oD) :: (dr, listOf drs.toArray ndr) :: (it, oit) :: (g, listOf gs.toArray z1) :: (wn, listOf ws.toArray z2) :: made) _ _ E ys xs hy hx hl oA ko at' size ta t1 t2 hA hsz hko hkl (by omega) (by omega) B F3' X (fun p hp => N3 p ?_) T fun h4 tk4 x dx d k1 k2 k3 nd nn u1 u2 vs hv F4 N4 fr4 => ?_))
  · revert p hp
    walk_at "perm"
  dsimp only
  have nD : ∀ p ∈ (cA, oA) :: (cD, oD) :: (dr, listOf drs.toArray ndr) :: (kd, ko) :: (it, oit) :: (g, listOf gs.toArray z1) :: (wn, listOf ws.toArray z2) :: made, p.1 ≠ D := hD2
  have frx : ∀ p ∈ (D, LCg.lst ys) :: (cA, oA) :: (kd, ko) :: (cD, oD) :: (dr, listOf drs.toArray ndr) :: (it, oit) :: (g, listOf gs.toArray z1) :: (wn, listOf ws.toArray z2) :: made, p.1 ≠ x ∧ p.1 ≠ dx ∧ p.1 ≠ d := fun p hp =>
    ⟨fr4 _ (.head _) p hp, fr4 _ (.tail _ (.head _)) p hp, fr4 _ (.tail _ (.tail _ (.head _))) p hp⟩
  clear fr4 hD2 N3 N2 N1 F1 F2 F3 F3'
  have xdx : x ≠ dx := news_ne N4 (.head _) (.tail _ (.head _)) (by intro z; cases z)
  have xd : x ≠ d := news_ne N4 (.head _) (.tail _ (.tail _ (.head _))) (by intro z; cases z)
  have dxd : dx ≠ d := news_ne N4 (.tail _ (.head _)) (.tail _ (.tail _ (.head _))) (by intro z; exact absurd (Value.type.inj z) (by decide))
  have inD : (D, LCg.lst ys) ∈ (D, LCg.lst ys) :: (cA, oA) :: (kd, ko) :: (cD, oD) :: (dr, listOf drs.toArray ndr) :: (it, oit) :: (g, listOf gs.toArray z1) :: (wn, listOf ws.toArray z2) :: made := .head _
  have ing : (g, listOf gs.toArray z1) ∈ (D, LCg.lst ys) :: (cA, oA) :: (kd, ko) :: (cD, oD) :: (dr, listOf drs.toArray ndr) :: (it, oit) :: (g, listOf gs.toArray z1) :: (wn, listOf ws.toArray z2) :: made := .tail _ (.tail _ (.tail _ (.tail _ (.tail _ (.tail _ (.head _))))))
  have inw : (wn, listOf ws.toArray z2) ∈ (D, LCg.lst ys) :: (cA, oA) :: (kd, ko) :: (cD, oD) :: (dr, listOf drs.toArray ndr) :: (it, oit) :: (g, listOf gs.toArray z1) :: (wn, listOf ws.toArray z2) :: made := .tail _ (.tail _ (.tail _ (.tail _ (.tail _ (.tail _ (.tail _ (.head _)))))))
  have gD : g ≠ D := nD (g, listOf gs.toArray z1) (.tail _ (.tail _ (.tail _ (.tail _ (.tail _ (.head _))))))
  have wD : wn ≠ D := nD (wn, listOf ws.toArray z2) (.tail _ (.tail _ (.tail _ (.tail _ (.tail _ (.tail _ (.head _)))))))
  have mg1 : ∀ p ∈ made, p.1 ≠ g := fun p hp q => hoff p hp (by simp [q])
  have mw1 : ∀ p ∈ made, p.1 ≠ wn := fun p hp q => hoff p hp (by simp [q])
  have vl : vs.length = xs.length := hv.length
  have yl : ys.length = xs.length := hy.length
  -- count, the two lists' first items, numbers
  refine wpC_execs_app (l := [a4, a5, a6, a7]) (wpC_any (st47 w e4 e5 e6 e7 hcs loose mean mg mb dp un gd L fa cA cD D g wn x dx d dr kd (textOf xs) t1 cd A₀ h₀ m ((kd, ko) :: (it, oit) :: made) _ _ E gs ws vs ys drs xs ns hv hy hl oA oD at' size ta t2 z1 z2 nd nn ndr k1 k2 k3 u1 u2 hA hD hI hnl ha0 ha2 hsz (by omega) (by omega) (by omega) (by omega) B F4 X (fun p hp => N4 p ?_) T ?_ ?_
    fun h5 tk5 tc nl b1 b2 nvs ks zn y1 y2 new hks hkl2 De1 De2 F5 N5 ap5 nn5 => ?_))
  · revert p hp
    walk_at "perm"
  · exact List.forall_mem_cons.2 ⟨hgw, List.forall_mem_cons.2 ⟨fun z => (frx _ ing).1 z.symm, List.forall_mem_cons.2 ⟨fun z => (frx _ ing).2.1 z.symm, List.forall_mem_cons.2 ⟨fun z => (frx _ ing).2.2 z.symm, List.forall_mem_cons.2 ⟨fun z => gD z.symm, List.forall_mem_cons.2 ⟨fg1, List.forall_mem_cons.2 ⟨fg2, List.forall_mem_cons.2 ⟨fg3, List.forall_mem_cons.2 ⟨fg4, List.forall_mem_cons.2 ⟨fg5, mg1⟩⟩⟩⟩⟩⟩⟩⟩⟩⟩
  · exact List.forall_mem_cons.2 ⟨fun z => (frx _ inw).1 z.symm, List.forall_mem_cons.2 ⟨fun z => (frx _ inw).2.1 z.symm, List.forall_mem_cons.2 ⟨fun z => (frx _ inw).2.2 z.symm, List.forall_mem_cons.2 ⟨fun z => wD z.symm, List.forall_mem_cons.2 ⟨fw1, List.forall_mem_cons.2 ⟨fw2, List.forall_mem_cons.2 ⟨fw3, List.forall_mem_cons.2 ⟨fw4, List.forall_mem_cons.2 ⟨fw5, mw1⟩⟩⟩⟩⟩⟩⟩⟩⟩
  dsimp only
  have apn : ∀ p ∈ (nl, listOf nvs.toArray zn) :: new, ∀ q ∈ (g, listOf gs.toArray z1) :: (wn, listOf ws.toArray z2) :: (x, instObj 394 dx) :: (dx, dictOf (sDict w k1 k2 k3 u1 u2 d) nd) :: (d, listOf vs.toArray nn) :: (D, LCg.lst ys) :: (cA, oA) :: (cD, oD) :: (dr, listOf drs.toArray ndr) :: (kd, ko) :: (it, oit) :: made, q.1 ≠ p.1 := fun p hp q hq' => Nat.ne_of_lt (AllLt.mem (ap5 p hp) q hq')
  clear ap5
  -- the inner loop
  refine wpC_execs_cons (st8 w e8 hcs loose mean mg mb dp un gd L fa cA cD D g wn x dx d kd nl (textOf xs) t1 t2 tc cd A₀ h₀ m [(x, instObj 394 dx), (dx, dictOf (sDict w k1 k2 k3 u1 u2 d) nd), (d, listOf vs.toArray nn), (D, LCg.lst ys), (cA, oA), (cD, oD), (dr, listOf drs.toArray ndr), (kd, ko), (it, oit), (nl, listOf nvs.toArray zn)] (new ++ made) _ _ E
    (gs ++ [.ref b1]) (ws ++ [.ref b2]) vs ys nvs (ds ++ [.list [.int (size.fdiv 4), .list (xs.map Dat.str)]]) xs ks size (size.fdiv 4) hv hy hl hok hks hkl2 y1 y2 nn nd zn k1 k2 k3 u1 u2 ?g1 ?g2 (by omega) (by omega) B F5 X T (fun p hp => N5 p ?N) ?ho ?off hgw ?fg ?fw ?Dg ?Dw ?ds
    fun h6 tk6 m6 gs6 ws6 ds6 made6 y3 y4 F6 hm6 N6 Dg6 Dw6 hds6 lg6 lw6 off6 => ?_)
  case g1 => simp only [List.length_append, List.length_cons, List.length_nil]; omega
  case g2 => simp only [List.length_append, List.length_cons, List.length_nil]; omega
  case N =>
    revert p hp
    walk_at "perm"
  case ho => walk_at "perm"
  case off =>
    intro p hp hm
    simp only [List.map_cons, List.map_nil, List.mem_cons, List.not_mem_nil, or_false] at hm
    rcases List.mem_append.mp hp with hp | hp
    · have z := apn p (.tail _ hp)
      rcases hm with e | e | e | e | e | e | e | e | e | e | e | e
      · exact z _ (.head _) e.symm
      · exact z _ (.tail _ (.head _)) e.symm
      · exact z _ (.tail _ (.tail _ (.head _))) e.symm
      · exact z _ (.tail _ (.tail _ (.tail _ (.head _)))) e.symm
      · exact z _ (.tail _ (.tail _ (.tail _ (.tail _ (.head _))))) e.symm
      · exact z _ (.tail _ (.tail _ (.tail _ (.tail _ (.tail _ (.head _)))))) e.symm
      · exact z _ (.tail _ (.tail _ (.tail _ (.tail _ (.tail _ (.tail _ (.head _))))))) e.symm
      · exact z _ (.tail _ (.tail _ (.tail _ (.tail _ (.tail _ (.tail _ (.tail _ (.head _)))))))) e.symm
      · exact z _ (.tail _ (.tail _ (.tail _ (.tail _ (.tail _ (.tail _ (.tail _ (.tail _ (.head _))))))))) e.symm
      · exact z _ (.tail _ (.tail _ (.tail _ (.tail _ (.tail _ (.tail _ (.tail _ (.tail _ (.tail _ (.head _)))))))))) e.symm
      · exact z _ (.tail _ (.tail _ (.tail _ (.tail _ (.tail _ (.tail _ (.tail _ (.tail _ (.tail _ (.tail _ (.head _))))))))))) e.symm
      · exact nn5 p hp e
    · have z := frx p (.tail _ (.tail _ (.tail _ (.tail _ (.tail _ (.tail _ (.tail _ (.tail _ hp))))))))
      rcases hm with e | e | e | e | e | e | e | e | e | e | e | e
      · exact mg1 p hp e
      · exact mw1 p hp e
      · exact z.1 e
      · exact z.2.1 e
      · exact z.2.2 e
      · exact nD p (.tail _ (.tail _ (.tail _ (.tail _ (.tail _ (.tail _ (.tail _ hp))))))) e
      · exact hoff p hp (by simp [e])
      · exact hoff p hp (by simp [e])
      · exact hoff p hp (by simp [e])
      · exact hoff p hp (by simp [e])
      · exact hoff p hp (by simp [e])
      · exact apn _ (.head _) p (.tail _ (.tail _ (.tail _ (.tail _ (.tail _ (.tail _ (.tail _ (.tail _ (.tail _ (.tail _ (.tail _ hp))))))))))) e
  case fg => exact List.forall_mem_cons.2 ⟨fun z => (frx _ ing).1 z.symm, List.forall_mem_cons.2 ⟨fun z => (frx _ ing).2.1 z.symm, List.forall_mem_cons.2 ⟨fun z => (frx _ ing).2.2 z.symm, List.forall_mem_cons.2 ⟨fun z => gD z.symm, List.forall_mem_cons.2 ⟨fg1, List.forall_mem_cons.2 ⟨fg2, List.forall_mem_cons.2 ⟨fg3, List.forall_mem_cons.2 ⟨fg4, List.forall_mem_cons.2 ⟨fg5, List.forall_mem_cons.2 ⟨fun z => apn _ (.head _) _ (.head _) z.symm, List.forall_mem_nil _⟩⟩⟩⟩⟩⟩⟩⟩⟩⟩
  case fw => exact List.forall_mem_cons.2 ⟨fun z => (frx _ inw).1 z.symm, List.forall_mem_cons.2 ⟨fun z => (frx _ inw).2.1 z.symm, List.forall_mem_cons.2 ⟨fun z => (frx _ inw).2.2 z.symm, List.forall_mem_cons.2 ⟨fun z => wD z.symm, List.forall_mem_cons.2 ⟨fw1, List.forall_mem_cons.2 ⟨fw2, List.forall_mem_cons.2 ⟨fw3, List.forall_mem_cons.2 ⟨fw4, List.forall_mem_cons.2 ⟨fw5, List.forall_mem_cons.2 ⟨fun z => apn _ (.head _) _ (.tail _ (.head _)) z.symm, List.forall_mem_nil _⟩⟩⟩⟩⟩⟩⟩⟩⟩⟩
  case Dg => exact datAll_snoc (De1.mono fun p hp => List.mem_append_left _ hp) (Dg.mono fun p hp => List.mem_append_right _ hp)
  case Dw => exact datAll_snoc (De2.mono fun p hp => List.mem_append_left _ hp) (Dw.mono fun p hp => List.mem_append_right _ hp)
  case ds =>
    intro d' hd'
    rcases List.mem_append.mp hd' with hd' | hd'
    · exact hds d' hd'
    · rw [List.mem_singleton.mp hd']; exact pair_ok hok
  dsimp only
  simp only [List.length_append, List.length_cons, List.length_nil] at lg6 lw6
  have q6 : ∀ y v, y ≠ ("i" : Str) → mNum nl x kd g wn D (textOf xs) tc t1 t2 (size.fdiv 4) size m y = some v → m6 y = some v := fun y v hy e => (hm6 y hy).trans e
  have mk6 : m6 "kinds" = some (.ref kd) := q6 _ _ (by decide) rfl
  have mg6 : m6 "got" = some (.ref g) := q6 _ _ (by decide) rfl
  have mw6 : m6 "want" = some (.ref wn) := q6 _ _ (by decide) rfl
  have elm : lm x kd g wn D (textOf xs) t1 t2 size m6 = m6 := by
    show upd "s" (.ref x) (upd "text" (.str (textOf xs) t1) (upd "row" (.ref D) (upd "size" (.int size t2) (upd "kinds" (.ref kd) (upd "got" (.ref g) (upd "want" (.ref wn) m6)))))) = m6
    rw [upd_self mw6, upd_self mg6, upd_self mk6, upd_self (q6 "size" _ (by decide) rfl), upd_self (q6 "row" _ (by decide) rfl), upd_self (q6 "text" _ (by decide) rfl), upd_self (q6 "s" _ (by decide) rfl)]
  have ecn : upd "count" (.int (size.fdiv 4) tc) m6 = m6 := upd_self (q6 "count" _ (by decide) rfl)
  have off7 : OffA [cA, cD, dr, kd, it, g, wn] made6 := fun p hp hm => off6 p hp (by
    simp only [List.map_cons, List.map_nil, List.mem_cons, List.not_mem_nil, or_false] at hm ⊢
    rcases hm with e | e | e | e | e | e | e <;> simp [e])
  by_cases hc5 : 0 < size.fdiv 4
  · have hq4 : size.fdiv 4 = size / 4 := Int.fdiv_eq_ediv_of_nonneg _ (by decide)
    obtain ⟨y0, xr, q0, v1, v2, v3, vr, rfl, rfl, hvr⟩ := strs4 hv (by omega)
    obtain ⟨q1, yr, rfl, hyr⟩ := strs1 hy
    have nm : ∀ p ∈ made6, p.1 ≠ g ∧ p.1 ≠ wn ∧ p.1 ≠ d := fun p hp => ⟨fun z => off6 p hp (by simp [z]), fun z => off6 p hp (by simp [z]), fun z => off6 p hp (by simp [z])⟩
    have inx : ∀ q ∈ [(cA, oA), (cD, oD), (dr, listOf drs.toArray ndr), (kd, ko), (it, oit)], q ∈ (D, LCg.lst (Value.str y0 q1 :: yr)) :: (cA, oA) :: (kd, ko) :: (cD, oD) :: (dr, listOf drs.toArray ndr) :: (it, oit) :: (g, listOf gs.toArray z1) :: (wn, listOf ws.toArray z2) :: made := by walk_at "perm"
    have nlx := fun q hq' => apn (nl, listOf nvs.toArray zn) (.head _) q hq'
    refine wpC_execs_cons (wpC_any (st9 w e9 hcs loose mean mg mb dp un gd L fa cA cD D g wn x dx d kd (textOf (y0 :: xr)) t1 t2 tc cd A₀ h₀ m6 ((cA, oA) :: (cD, oD) :: (dr, listOf drs.toArray ndr) :: (kd, ko) :: (it, oit) :: (nl, listOf nvs.toArray zn) :: made6) _ _ E gs6 ws6 y0 q0 q1 v1 v2 v3 vr yr size (size.fdiv 4) y3 y4 nn nd (Value.str y0 q1 :: yr).length k1 k2 k3 u1 u2 (by omega) (by omega) (by omega) (by omega) hc5 (by omega) (by omega) B (by rw [elm, ecn]; exact F6) X T (fun p hp => N6 p ?N)
      hgw (fun z => (frx _ ing).1 z.symm) (fun z => (frx _ ing).2.1 z.symm) (fun z => (frx _ ing).2.2 z.symm) (fun z => gD z.symm) ?g9 (fun z => (frx _ inw).1 z.symm) (fun z => (frx _ inw).2.1 z.symm) (fun z => (frx _ inw).2.2 z.symm) (fun z => wD z.symm) ?w9 xd dxd (frx _ inD).2.2 ?d9 xdx
      fun h7 tk7 l1 l2 vf qa qb qe qf F7 N7 ql1 ql2 => ?_))
    case N =>
      revert p hp
      walk_at "perm"
    case g9 => exact List.forall_mem_cons.2 ⟨fg1, List.forall_mem_cons.2 ⟨fg2, List.forall_mem_cons.2 ⟨fg3, List.forall_mem_cons.2 ⟨fg4, List.forall_mem_cons.2 ⟨fg5, List.forall_mem_cons.2 ⟨fun z => nlx _ (.head _) z.symm, fun p hp => (nm p hp).1⟩⟩⟩⟩⟩⟩
    case w9 => exact List.forall_mem_cons.2 ⟨fw1, List.forall_mem_cons.2 ⟨fw2, List.forall_mem_cons.2 ⟨fw3, List.forall_mem_cons.2 ⟨fw4, List.forall_mem_cons.2 ⟨fw5, List.forall_mem_cons.2 ⟨fun z => nlx _ (.tail _ (.head _)) z.symm, fun p hp => (nm p hp).2.1⟩⟩⟩⟩⟩⟩
    case d9 => exact List.forall_mem_cons.2 ⟨(frx _ (inx _ (.head _))).2.2, List.forall_mem_cons.2 ⟨(frx _ (inx _ (.tail _ (.head _)))).2.2, List.forall_mem_cons.2 ⟨(frx _ (inx _ (.tail _ (.tail _ (.head _))))).2.2, List.forall_mem_cons.2 ⟨(frx _ (inx _ (.tail _ (.tail _ (.tail _ (.head _)))))).2.2, List.forall_mem_cons.2 ⟨(frx _ (inx _ (.tail _ (.tail _ (.tail _ (.tail _ (.head _))))))).2.2, List.forall_mem_cons.2 ⟨fun z => nlx _ (.tail _ (.tail _ (.tail _ (.tail _ (.head _))))) z.symm, fun p hp => (nm p hp).2.2⟩⟩⟩⟩⟩⟩
    dsimp only
    refine wpC_execs_nil (hq h7 tk7 _ (gs6 ++ [.ref l1]) (ws6 ++ [.ref l2]) (ds6 ++ [.list [.str y0, .str "zz"]]) ([(l1, listOf #[Value.str y0 qa, Value.str "zz" qb] 0), (l2, listOf #[Value.str y0 qe, Value.str "zz" qf] 0)] ++ made6) (y3 + 1) (y4 + 1) F7 rfl rfl rfl (fun p hp => N7 p ?N2) ?D1 ?D2 ?D3 ?l1 ?l2 ?off)
    case N2 =>
      revert p hp
      walk_at "perm"
    case D1 => exact datAll_snoc (.list (.head _) (.cons (.str _ _) (.cons (.str _ _) .nil))) (Dg6.mono fun p hp => List.mem_cons_of_mem _ (List.mem_cons_of_mem _ hp))
    case D2 => exact datAll_snoc (.list (.tail _ (.head _)) (.cons (.str _ _) (.cons (.str _ _) .nil))) (Dw6.mono fun p hp => List.mem_cons_of_mem _ (List.mem_cons_of_mem _ hp))
    case D3 =>
      intro d' hd'
      rcases List.mem_append.mp hd' with hd' | hd'
      · exact hds6 d' hd'
      · rw [List.mem_singleton.mp hd']; exact zz_ok (hok _ List.mem_cons_self)
    case l1 => rw [List.length_append, List.length_singleton]; omega
    case l2 => rw [List.length_append, List.length_singleton]; omega
    case off =>
      have key : ∀ l : Addr, (@LT.lt Nat _ g l ∧ @LT.lt Nat _ wn l ∧ AllLt l ((cA, oA) :: (cD, oD) :: (dr, listOf drs.toArray ndr) :: (kd, ko) :: (it, oit) :: (nl, listOf nvs.toArray zn) :: made6)) → l ∉ [cA, cD, dr, kd, it, g, wn] := by
        rintro l ⟨a1, a2, a3, a4, a5, a6, a7, _⟩ hm
        simp only [List.mem_cons, List.not_mem_nil, or_false] at hm
        rcases hm with e | e | e | e | e | e | e
        · exact Nat.ne_of_lt a3 e.symm
        · exact Nat.ne_of_lt a4 e.symm
        · exact Nat.ne_of_lt a5 e.symm
        · exact Nat.ne_of_lt a6 e.symm
        · exact Nat.ne_of_lt a7 e.symm
        · exact Nat.ne_of_lt a1 e.symm
        · exact Nat.ne_of_lt a2 e.symm
      intro p hp
      rcases List.mem_append.mp hp with hp | hp
      · rcases List.mem_cons.mp hp with rfl | hp
        · exact key l1 ql1
        · rw [List.mem_singleton.mp hp]; exact key l2 ql2
      · exact off7 p hp
  · refine wpC_execs_cons (wpC_any (st9neg w e9 hcs loose mean mg mb dp un gd L fa cA cD tc cd h₀ m6 _ _ _ E (size.fdiv 4) hc5 (by rw [ecn]; exact F6) X T N6 fun tk7 => ?_))
    dsimp only
    refine wpC_execs_nil (hq h6 tk7 m6 gs6 ws6 ds6 made6 y3 y4 F6 mk6 mg6 mw6 (fun p hp => N6 p ?_) Dg6 Dw6 hds6 (by omega) (by omega) off7)
    revert p hp
    walk_at "perm"
end Mine
end

section
set_option maxHeartbeats 8000000
namespace Mine
theorem resetT3 : True := by
  k_with_none
  w_top off
  trivial
structure InvT (h₀ : Heap) (L cA cD dr kd it g wn : Addr) (oD ko : Obj) (drs : List Value) (ndr : Nat) (s : Shared) (i : Nat) (s' : Shared) : Prop where
  at_ : ∃ h tk m' gs ws ds made z1 z2 oA, s' = { s with heap := h, toks := tk } ∧ Fr h₀ L h m' ∧ m' ("kinds" : Str) = some (.ref kd) ∧ m' ("got" : Str) = some (.ref g) ∧ m' ("want" : Str) = some (.ref wn) ∧
    News h₀ L h ((cA, oA) :: (cD, oD) :: (dr, listOf drs.toArray ndr) :: (kd, ko) :: (it, itR (0 + ((i : Nat) : Int)) ((3 : Int) - ((i : Nat) : Int))) :: (g, listOf (List.toArray gs) z1) :: (wn, listOf (List.toArray ws) z2) :: made) ∧ (∃ v0, oA.data = .cell v0) ∧
    DatAll made gs ds ∧ DatAll made ws ds ∧ (∀ d ∈ ds, kqdOk 8 d = true) ∧ gs.length ≤ 30 * i ∧ ws.length ≤ 30 * i ∧ OffA [cA, cD, dr, kd, it, g, wn] made
theorem scope_facts {P : Params} {cs : Scope} (h : lawScope P = some cs) : cs.kind = .function ∧ ∀ (L fa : Addr) (cd : Value) (cl : List (Str × Addr)), (envX "law" cs L fa cd cl).kindOf "at" = some .cell := by
  cases h
  exact ⟨rfl, fun _ _ _ _ => rfl⟩
theorem outer (w : World) {cs : Scope} (hcs : lawScope w.params = some cs)
  (loose : List Str) (mean : ExcName → Option Value) (mg mb : Str → Option Value) (dp un : Nat) (gd : Option (List Code)) (L fa cA cD dr kd it g wn : Addr) (cd : Value) (A₀ : Around) (h₀ : Heap) (s : Shared) (R : Result → Shared → Prop) (px : Pos)
  (drs : List Value) (ns : List Int) (oD ko : Obj) (ndr : Nat) (hD : oD.data = .cell (some (.ref dr))) (hI : IntsAre drs ns) (hnl : ns.length = 21)
  (hko : ko.IsDictOf (PySem.strKind PW w) [(("XDR" : Str), .ref 394)]) (hkl : (kd == sysModules) = false) (hdp : dp + 100 < recursionLimit) (hun : un + 1000 < cLine)
  (B : Below A₀ h₀ [] h₀) (X : (hd.heap_39 w.params).In h₀) (T : Top hd.view_39 loose mean mg mb h₀)
  (o1 : @LT.lt Nat _ cD cA) (o2 : @LT.lt Nat _ cA kd) (o3 : @LT.lt Nat _ kd dr) (o4 : @LT.lt Nat _ dr g) (o5 : @LT.lt Nat _ g wn) (o6 : @LT.lt Nat _ wn it)
  (fin : ∀ h tk m' gs ws ds made z1 z2, Fr h₀ L h m' → m' ("got" : Str) = some (.ref g) → m' ("want" : Str) = some (.ref wn) → News h₀ L h ((g, listOf (List.toArray gs) z1) :: (wn, listOf (List.toArray ws) z2) :: made) → DatAll made gs ds → DatAll made ws ds → (∀ d ∈ ds, kqdOk 8 d = true) →
    R (.ok .next) { s with heap := h, toks := tk }) :
  ∀ (k i : Nat) (s' : Shared), i + k = 3 → InvT h₀ L cA cD dr kd it g wn oD ko drs ndr s i s' →
    codeC (model PySem.Challenge.pw_dg5011_01 w) (ktrTop dp un gd "law" cs L fa cd [("at", cA), ("draw", cD)] []) (.forLoop (.Name "at" px) (.ref it) (turnBody w.params) [] (envX "law" cs L fa cd [("at", cA), ("draw", cD)])) R s'
  | k, i, s', hik, ⟨h, tk, m', gs, ws, ds, made, z1, z2, oA, e0, F, mk, mgot, mw, N, ⟨v0, hA⟩, Dg, Dw, hds, lg, lw, off⟩ => by
    subst e0
    have sf := scope_facts hcs
    have Nit := N _ (.tail _ (.tail _ (.tail _ (.tail _ (.head _)))))
    have ne : ∀ {a b : Nat}, a < b → a ≠ b := fun h => Nat.ne_of_lt h
    cases k with
    | zero =>
      have e3 : i = 3 := by omega
      subst e3
      refine codeC_forTurn (fun _ => rfl) (wpAny_pyNext_range_end rfl (s := ⟨h, s.gens, s.drawn, tk, s.os⟩) Nit.1 (by decide) fun h' he => ?_)
      have hk1 : ∀ b o, b ∉ [it] → h.get? b = some o → h'.get? b = some o := fun b o hb ee => he b o (fun q => hb (List.mem_singleton.mpr q)) ee
      refine fin h' tk m' gs ws ds made z1 z2 (LCg.fr_but F hk1 Nit.2.1.symm Nit.2.2) mgot mw (LCg.news_but (fun p hp => N p (.tail _ (.tail _ (.tail _ (.tail _ (.tail _ hp)))))) hk1 ?_) Dg Dw hds
      exact List.forall_mem_cons.2 ⟨ne (by omega), List.forall_mem_cons.2 ⟨ne o6, fun p hp q => off p hp (by simp [q])⟩⟩
    | succ k =>
      refine codeC_forTurn (fun _ => rfl) (wpAny_pyNext_range_item (s := ⟨h, s.gens, s.drawn, tk, s.os⟩) Nit.1 (by omega) fun h' hit' hs' => ?_)
      have hk1 : ∀ b o, b ∉ [it] → h.get? b = some o → h'.get? b = some o := fun b o hb ee => (hs'.2 b (fun q => hb (List.mem_singleton.mpr q))).trans ee
      have F1 : Fr h₀ L h' m' := LCg.fr_but F hk1 Nit.2.1.symm Nit.2.2
      have N0 : News h₀ L h' ((cA, oA) :: (cD, oD) :: (dr, listOf drs.toArray ndr) :: (kd, ko) :: (g, listOf (List.toArray gs) z1) :: (wn, listOf (List.toArray ws) z2) :: made) := LCg.news_but (fun p hp => N p (by
          rcases List.mem_cons.mp hp with rfl | hp
          · exact .head _
          · rcases List.mem_cons.mp hp with rfl | hp
            · exact .tail _ (.head _)
            · rcases List.mem_cons.mp hp with rfl | hp
              · exact .tail _ (.tail _ (.head _))
              · rcases List.mem_cons.mp hp with rfl | hp
                · exact .tail _ (.tail _ (.tail _ (.head _)))
                · exact .tail _ (.tail _ (.tail _ (.tail _ (.tail _ hp)))))) hk1
        (List.forall_mem_cons.2 ⟨ne (by omega), List.forall_mem_cons.2 ⟨ne (by omega), List.forall_mem_cons.2 ⟨ne (by omega), List.forall_mem_cons.2 ⟨ne (by omega), List.forall_mem_cons.2 ⟨ne (by omega), List.forall_mem_cons.2 ⟨ne o6, fun p hp q => off p hp (by simp [q])⟩⟩⟩⟩⟩⟩)
      have it1 : itR (0 + ((i : Nat) : Int) + 1) ((3 : Int) - ((i : Nat) : Int) - 1) = itR (0 + ((i + 1 : Nat) : Int)) ((3 : Int) - ((i + 1 : Nat) : Int)) := by
        congr 1 <;> omega
      have N1 : News h₀ L h' ((cA, oA) :: (cD, oD) :: (dr, listOf drs.toArray ndr) :: (kd, ko) :: (it, itR (0 + ((i + 1 : Nat) : Int)) ((3 : Int) - ((i + 1 : Nat) : Int))) :: (g, listOf (List.toArray gs) z1) :: (wn, listOf (List.toArray ws) z2) :: made) := by
        intro p hp
        rcases List.mem_cons.mp hp with rfl | hp
        · exact N0 _ (.head _)
        · rcases List.mem_cons.mp hp with rfl | hp
          · exact N0 _ (.tail _ (.head _))
          · rcases List.mem_cons.mp hp with rfl | hp
            · exact N0 _ (.tail _ (.tail _ (.head _)))
            · rcases List.mem_cons.mp hp with rfl | hp
              · exact N0 _ (.tail _ (.tail _ (.tail _ (.head _))))
              · rcases List.mem_cons.mp hp with rfl | hp
                · exact ⟨it1 ▸ hit', Nit.2⟩
                · exact N0 _ (.tail _ (.tail _ (.tail _ (.tail _ hp))))
      refine wpAny_assign_Name (storeX_C F1 N1 rfl (UpdF.head (List.forall_mem_cons.2 ⟨ne o1, List.forall_mem_cons.2 ⟨(ne (by omega)).symm, List.forall_mem_cons.2 ⟨(ne o2).symm, List.forall_mem_cons.2 ⟨(ne (by omega)).symm, List.forall_mem_cons.2 ⟨(ne (by omega)).symm, List.forall_mem_cons.2 ⟨(ne (by omega)).symm, fun p hp q => off p hp (by simp [q])⟩⟩⟩⟩⟩⟩)) hA (fun h2 oA2 F2 N2 hA2 => ?_) sf.1 (sf.2 _ _ _ _))
      refine turn w hcs loose mean mg mb dp un gd L fa cA cD dr kd it g wn cd A₀ h₀ m' made _ _ _ gs ws drs ds ns oA2 oD ko _ (0 + ((i : Nat) : Int)) tk z1 z2 ndr hA2 hD hI hnl (by omega) (by omega) hko hkl (by omega) (by omega) hdp hun B F2 mk mgot mw X T N2 off
        (ne o5).symm (ne (by omega)) (ne (by omega)) (ne o4) (ne (by omega)) (ne (by omega)).symm (ne (by omega)) (ne (by omega)) (ne (by omega)) (ne (by omega)) (ne o6).symm Dg Dw hds ?_
      intro h3 tk3 m3 gs3 ws3 ds3 made3 y1 y2 F3 mk3 mg3 mw3 N3 Dg3 Dw3 hds3 lg3 lw3 off3
      dsimp only
      exact outer w hcs loose mean mg mb dp un gd L fa cA cD dr kd it g wn cd A₀ h₀ s R px drs ns oD ko ndr hD hI hnl hko hkl hdp hun B X T o1 o2 o3 o4 o5 o6 fin k (i + 1) _ (by omega) ⟨h3, tk3, m3, gs3, ws3, ds3, made3, y1, y2, oA2, rfl, F3, mk3, mg3, mw3, N3, ⟨_, hA2⟩, Dg3, Dw3, hds3, by omega, by omega, off3⟩
end Mine
end

section
set_option maxHeartbeats 8000000
namespace Mine
local macro_rules | `(tactic| walk_at "none 0") => `(tactic| fail)
local macro_rules | `(tactic| walk_at "none 1") => `(tactic| fail)
theorem resetT4 : True := by
  k_with_none
  w_top off
  trivial
theorem fillT4 : PySem.Challenge.rw_dg5011_01 = PySem.Challenge.rw_dg5011_01 ∧ hd.heap_39 = hd.heap_39 := by
  k_fill
  exact ⟨rfl, rfl⟩
section
variable {prog : Program} {w : World} {A : Around} {s : Shared} {K : Frag} {R : Result → Shared → Prop} {name qual : Str} {params : Arguments} {body : List Stmt} {scope : Scope} {dV kV doc pm cdv ct oc : Value} {an od : Option Addr} {osl : Array (Option Value)} {f : Addr} {args : Args} {binds : List (Str × Value)}
/-- a def with cells entered from the caller, under the judgement that knows of the caller -/
theorem codeC_law (cl : Addr → List (Str × Addr)) (hcl : ∀ L' : Nat, cellsFrom (L' + 1) scope.names [] = cl L') (X : K.In s.heap) (hlim : s.heap.NoLimit) (ho : K.lookup f = some ⟨oc, od, .func (fnX name qual params body scope [] dV kV doc pm an cdv ct), osl⟩) (hcd : codeIn K cdv qual = true) (hroom : A.depth < recursionLimit)
    (hbind : BindsTo s (fnX name qual params body scope [] dV kV doc pm an cdv ct) args binds)
    (hkind : (binds.all fun y => scope.names.lookup y.1 == some .local || scope.names.lookup y.1 == some .cell) = true)
    (hnd : ((cellsFrom 0 scope.names []).map (·.1)).Nodup)
    (h : ∀ (L' : Nat) h₁ tk cells, Fr s.heap L' h₁ (bindL (envX qual scope L' f cdv (cl L')).kindOf binds fun _ => none) → News s.heap L' h₁ cells →
      CellsAre (bindC (envX qual scope L' f cdv (cl L')).kindOf binds fun _ => none) (cl L') cells →
      wpC (model prog w) (A.deeper (envX qual scope L' f cdv (cl L'))) (execs body (envX qual scope L' f cdv (cl L')))
        (fun fl s' => R (.ok (.ret (match fl with | .ret v => v | _ => .none))) s') (fun _ _ => False) { s with heap := h₁, toks := tk })
    (hco : scope.isCoroutine = false) (hgen : scope.isGenerator = false) (hk : scope.kind = .function) : codeC (model prog w) A (.call (.ref f) args) R s := by
  obtain rfl : cl = fun (L' : Nat) => cellsFrom (L' + 1) scope.names [] := funext fun L' => (hcl L').symm
  refine codeC_call_function hroom (X _ _ ho) rfl hco hgen rfl (codeRec_of X hcd) (wpC_any (hbind _ _ _ _ ?_))
  refine wpAny_newFunctionEnv_cells hk (kindsX hkind _) fun env' he s' x => ?_
  subst he
  refine ⟨hlim.keeps x.toInCall.keep, codeC_func ?_⟩
  obtain ⟨h₁, tk, rfl, _⟩ := x.done
  obtain ⟨cells, NC, Y⟩ := Cl.news (h₀ := s.heap) (Nat.le_refl _) fun n c hm => ⟨x.cell n c (lookup_of_mem_nodup (cellsFrom_names scope.names 0 (s.heap.objs.size + 1) [] [] rfl ▸ hnd) hm), x.above n c hm⟩
  exact wpC_mono (h _ h₁ tk cells ⟨x.toInCall.ns, x.toInCall.keep, Nat.le_refl _⟩ NC Y) (fun _ _ z => z) fun _ _ z => z.elim
end
theorem eq_same {prog : Program} {w : World} {A : Around} {E : Value → Shared → Prop} {s : Shared} {h₀ : Heap} {L g wn : Addr} {gs ws : List Value} {ds : List Dat} {z1 z2 : Nat} {made : List (Addr × Obj)} {Q : Value → Shared → Prop} (N : News h₀ L s.heap ((g, listOf (List.toArray gs) z1) :: (wn, listOf (List.toArray ws) z2) :: made)) (Dg : DatAll made gs ds) (Dw : DatAll made ws ds) (hds : ∀ d ∈ ds, kqdOk 8 d = true) (hu : A.units + 64 < cLine) (h : Q (.bool true) s) :
    wpAny (model prog w) A (compareOp .Eq (.ref g) (.ref wn)) Q E s :=
  kqd_eq N (.head _) rfl rfl Dg (fun p hp => .tail _ (.tail _ hp)) (.tail _ (.head _)) rfl rfl Dw (fun p hp => .tail _ (.tail _ hp)) hds hds hu (by
    have e : ∀ (b : Bool), b = true → Q (.bool b) s := fun b hb => by rw [hb]; exact h
    exact e _ (by simp))
theorem fr_two {h₀ h : Heap} {L : Addr} {m : Str → Option Value} {g wn : Value} (F : Fr h₀ L h m) (a : m "got" = some g) (b : m "want" = some wn) : Fr h₀ L h (upd "got" g (upd "want" wn m)) := by
  rw [upd_self b, upd_self a]; exact F
theorem lawLoop {w : World} {cs : Scope} (hcs : lawScope w.params = some cs)
  {loose : List Str} {mean : ExcName → Option Value} {mg mb : Str → Option Value} {dp un : Nat} {gd : Option (List Code)} {L fa cA cD dr kd g wn : Addr} {cd : Value} {A₀ : Around} {h₀ h : Heap} {s : Shared} {R : Result → Shared → Prop} {px : Pos} {m : Str → Option Value} {tk : Nat}
  {drs : List Value} {ns : List Int} {oA oD ko : Obj} {n1 n2 n3 : Nat} {j1 j2 j3 j4 : Addr × Obj} (hA : oA.data = .cell none) (hD : oD.data = .cell (some (.ref dr))) (hI : IntsAre drs ns) (hnl : ns.length = 21)
  (hko : ko.IsDictOf (PySem.strKind PW w) [(("XDR" : Str), .ref 394)]) (hkl : (kd == sysModules) = false) (hdp : dp + 100 < recursionLimit) (hun : un + 1000 < cLine)
  (B : Below A₀ h₀ [] h₀) (X : (hd.heap_39 w.params).In h₀) (T : Top hd.view_39 loose mean mg mb h₀) (F : Fr h₀ L h m) (mk : m ("kinds" : Str) = some (.ref kd)) (mgot : m ("got" : Str) = some (.ref g)) (mw : m ("want" : Str) = some (.ref wn))
  (N : News h₀ L h [(wn, listOf #[] n1), (g, listOf #[] n2), (dr, listOf drs.toArray n3), j1, j2, j3, j4, (kd, ko), (cA, oA), (cD, oD)])
  (o1 : @LT.lt Nat _ cD cA) (o2 : @LT.lt Nat _ cA kd) (o3 : @LT.lt Nat _ kd dr) (o4 : @LT.lt Nat _ dr g) (o5 : @LT.lt Nat _ g wn)
  (fin : ∀ h' tk m' gs ws ds made z1 z2, Fr h₀ L h' m' → m' ("got" : Str) = some (.ref g) → m' ("want" : Str) = some (.ref wn) → News h₀ L h' ((g, listOf (List.toArray gs) z1) :: (wn, listOf (List.toArray ws) z2) :: made) → DatAll made gs ds → DatAll made ws ds → (∀ d ∈ ds, kqdOk 8 d = true) →
    R (.ok .next) { s with heap := h', toks := tk }) :
  codeC (model PySem.Challenge.pw_dg5011_01 w) (ktrTop dp un gd "law" cs L fa cd [("at", cA), ("draw", cD)] []) (.forLoop (.Name "at" px) (.ref h.objs.size) (turnBody w.params) [] (envX "law" cs L fa cd [("at", cA), ("draw", cD)])) R
    { s with heap := h.push { cls := .type "range_iterator", data := .fields #[rawInt 0, rawInt (Builtin.Range.rangeSize 0 3 1), rawInt 1] }, toks := tk } := by
  have o6 : @LT.lt Nat _ wn h.objs.size := Heap.lt_size (N _ (.head _)).1
  refine outer w hcs loose mean mg mb dp un gd L fa cA cD dr kd h.objs.size g wn cd A₀ h₀ s R px drs ns oD ko n3 hD hI hnl hko hkl hdp hun B X T o1 o2 o3 o4 o5 o6 fin 3 0 _ rfl
    ⟨_, tk, m, [], [], [], [], n2, n1, oA, rfl, F.push _, mk, mgot, mw, ?_, ⟨none, hA⟩, .nil, .nil, (fun _ h => nomatch h), Nat.zero_le _, Nat.zero_le _, fun _ h => nomatch h⟩
  have up : ∀ p ∈ [(wn, listOf #[] n1), (g, listOf #[] n2), (dr, listOf drs.toArray n3), j1, j2, j3, j4, (kd, ko), (cA, oA), (cD, oD)], Heap.get? (h.push { cls := .type "range_iterator", data := .fields #[rawInt 0, rawInt (Builtin.Range.rangeSize 0 3 1), rawInt 1] }) p.1 = some p.2 ∧ p.1 ≠ L ∧ h₀.get? p.1 = none := fun p hp => ⟨Heap.get?_push_of_some _ (N p hp).1, (N p hp).2⟩
  refine List.forall_mem_cons.2 ⟨up _ (by simp), List.forall_mem_cons.2 ⟨up _ (by simp), List.forall_mem_cons.2 ⟨up _ (by simp), List.forall_mem_cons.2 ⟨up _ (by simp), List.forall_mem_cons.2 ⟨⟨?_, Nat.ne_of_gt F.ns.lt, next_is_new F⟩, List.forall_mem_cons.2 ⟨up _ (by simp), List.forall_mem_cons.2 ⟨up _ (by simp), List.forall_mem_nil _⟩⟩⟩⟩⟩⟩⟩
  exact Heap.get?_push_size _ rfl
theorem lawCode (w : World) (loose : List Str) (mean : ExcName → Option Value) (mg mb : Str → Option Value) (s : Shared) (X : (hd.heap_39 w.params).In s.heap) (T : Top hd.view_39 loose mean mg mb s.heap) (l : Addr) (vs : List Value) (ns : List Int) (hl : s.heap.IsList l vs.toArray) (hI : IntsAre vs ns) (h63 : ns.length ≤ 63)
    (R : Result → Shared → Prop) (hR : ∀ h' tk, (∀ b o, s.heap.get? b = some o → h'.get? b = some o) → R (.ok (.ret (.bool true))) { s with heap := h', toks := tk }) :
    codeC (model PySem.Challenge.pw_dg5011_01 w) callerA (.call (.ref 423) ⟨[.ref l], []⟩) R s := by
  k_dflt (refine' codeC_law (binds := [(("script" : Str), .ref l)]) (fun L' => [("at", L' + 1 + 1), ("draw", L' + 1)]) (fun _ => ?kc) X T.nolimit ?k6 ?k7 ?k8 ?kB ?k9 ?kn ?_ ?c2 ?c3 ?c4; (case k6 => k_is); (case kc => exact rfl); (case k7 => k_is); (case k8 => decide); (case kB => exact BindsTo.of_eq rfl); (case k9 => exact rfl); (case kn => decide); (case c2 => exact rfl); (case c3 => exact rfl); (case c4 => exact rfl); k_whole)
  intro L h1 tk cells F N Y
  have hY := CellsAre.two Y
  obtain ⟨oA, oD, hE, d1, d2⟩ := hY
  subst hE
  clear Y
  have d1 : oA.data = .cell none := d1
  have d2 : oD.data = .cell none := d2
  have lt1 : @LT.lt Nat _ (L + 1) (L + 1 + 1) := Nat.lt_succ_self _
  have F : Fr s.heap L h1 (fun y => if y = ("script" : Str) then some (.ref l) else none) := F
  generalize hA : L + 1 + 1 = cA at N lt1 ⊢
  generalize hD : L + 1 = cD at N lt1 ⊢
  have o2 : @LT.lt Nat _ cA h1.objs.size := Heap.lt_size (N _ (.head _)).1
  (try dsimp only)
  refine wpC_execs_cons (wpC_any ?_)
  (try k_fold)
  k_steps
  (try dsimp only)
  refine wpC_execs_cons (wpC_any ?_)
  (try k_fold)
  k_steps
  (try dsimp only)
  rename IntsAre _ (_ ++ _) => hI2
  have h21 : (List.take 21 ns ++ (List.replicate (21 - ((List.take 21 ns).length : Int)).toNat [(0 : Int)]).flatten).length = 21 := by
    rw [List.length_append, List.length_flatten, List.map_replicate, List.sum_replicate_nat, List.length_take]
    simp only [List.length_cons, List.length_nil]
    omega
  generalize (List.take 21 ns ++ (List.replicate (21 - ((List.take 21 ns).length : Int)).toNat [(0 : Int)]).flatten) = ns2 at hI2 h21
  refine wpC_execs_cons (wpC_any ?_)
  (try k_fold)
  k_steps
  (try dsimp only)
  refine wpC_execs_cons (wpC_any ?_)
  (try k_fold)
  k_steps
  (try dsimp only)
  refine wpC_execs_cons (wpC_For ?_)
  (try k_fold)
  k_steps
  (try dsimp only)
  rename IsRange _ _ _ _ _ _ _ _ => hr
  rename Fr s.heap L _ _ => F2
  rename News s.heap L _ _ => N2
  rename Obj.IsDictOf _ _ _ => hko
  rename (_ == sysModules) = false => hkl
  rename Obj.data _ = Data.cell (some _) => hD2
  refine wpAny_pyIter_range hr (by decide) ?_
  refine lawLoop (cs := _) (s := s) (by rfl) d1 hD2 hI2 h21 hko hkl (by decide) (by decide) (below_caller s.heap) X T F2 rfl rfl rfl N2 lt1 o2 (by omega) (by omega) (by omega) ?_
  intro h3 tk3 m3 gs ws ds made y1 y2 F3 mg3 mw3 N3 Dg Dw hds
  clear F2 N2
  have F4 := fr_two F3 mg3 mw3
  clear mg3 mw3 F3
  clear hD2 hkl hko hI2 hr h21 lt1 o2
  refine wpC_execs_cons (wpC_any ?_)
  (try k_fold)
  k_steps
  exact hR _ _ F4.keep
end Mine
end

section
set_option maxHeartbeats 8000000
namespace Mine
theorem resetL1 : True := by
  k_with_none
  w_top off
  trivial
theorem fillL0 : PySem.Challenge.rw_dg5011_01 = PySem.Challenge.rw_dg5011_01 ∧ hd.heap_39 = hd.heap_39 := by
  k_fill
  exact ⟨rfl, rfl⟩
theorem fin_true {cl : Str → Option Addr} {mean : ExcName → Option Value} {s₁ : Shared} {ns : List Int} (hg : s₁.gens = #[]) (h' : Heap) (tk : Nat) (hk : ∀ b o, s₁.heap.get? b = some o → h'.get? b = some o) :
    GoodWG PySem.Challenge.rw_dg5011_01.row.claim cl mean [ofPy (PyData.list (List.map PyData.int ns))] s₁ (.ok (.ret (.bool true))) { s₁ with heap := h', toks := tk } :=
  GoodW.toG ⟨.inl ⟨_, .bool true, [], rfl, raisesW_false (by wrow_none_raised), .bool true, by wrow_post, unshared_nil⟩, hk, rfl, hg⟩
theorem law_holds : PySem.Challenge.rw_dg5011_01.Holds := by
  refine hd ?_
  intro w s₀ s₁ mg mb G Y fa o pm cd doc dV kV ho hd' hcd hD hmg hg args vals as hpre hlay hrd hwl hlo
  have KX := kIn_of Y
  have X := (Ground.X G).1
  have V := (Ground.X G).2
  refine Ground.open G ?_
  intro T B D TE TW
  have hfa := mg_of KX T.g (n := ("law" : Str)) (v := .ref 423) (by k_is)
  obtain rfl : fa = 423 := by
    have e : some (Value.ref fa) = some (Value.ref 423) := hmg.symm.trans hfa
    injection e with e; injection e
  clear hmg hfa ho hd' hcd hD
  wrow_args hpre hlay hrd hwl hlo
  exact ⟨fin_true (s₁ := s₁) hg s₁.heap s₁.toks fun _ _ e => e, wpC_call (lawCode w _ _ _ _ _ KX T _ _ _ (by assumption) (by assumption) (by omega) _ fun h' tk hk => fin_true hg h' tk hk)⟩
end Mine
end

theorem PySem.Challenge.cw_dg5011_01_holds : PySem.Challenge.rw_dg5011_01.Holds :=
  Mine.law_holds
