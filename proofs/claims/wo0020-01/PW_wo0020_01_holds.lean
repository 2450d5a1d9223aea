import PyProof.Rows.All
import Wide.All
import OpenK.AllK
import Wide.FinOn
import Lean
import PySem.Challenge.RW_wo0020_01
open PySem PySem.W PyProof.Rows PySem.Calls PySem.Spec
set_option Elab.async false
set_option maxRecDepth 100000
set_option maxHeartbeats 8000000
set_option linter.unusedVariables false
set_option rowWalk.seconds 0
namespace Mine
/-- what the top leaves, by one run and its looks: the library's own faster twins of the run, the table and the look -/
theorem left_of_run {p q : Program} {loose : List Str} {Xt : Shared → Bool} {α : Type} {Yf : Shared → α} {Ya : World → α} {N : Nat} {g0 : Bool} {H₀ : Params → Heap} {gs₀ : Array GenState} {d₀ : Drawn} {k₀ : Nat} {m₀ : Nat} {ann : Option Value}
    (open_ : ∀ w : World, (fencedOpening treeTable p w N).map (fun s => (s.heap, s.gens, s.drawn, s.toks)) = some (H₀ w.params, gs₀, d₀, k₀))
    (size : ∀ w : World, ((H₀ w.params).isNs mainGlobals && gs₀.size == 0, (H₀ w.params).objs.size, (H₀ w.params).nsMap mainGlobals "__annotations__") = (true, m₀, ann))
    (run : ∀ (w : World) (os : OsState), (PySem.W.Fast.tw14082659384304107361 PySem.W.Fast.tw14364793385576792824 p w m₀ ann N ⟨H₀ w.params, gs₀, d₀, k₀, os⟩ (topStub p)).map (fun s₁ =>
      (staticsOk (importedModules p.main.body) (H₀ w.params) s₁.heap && namesBound p s₁.heap && gensDone s₁ && laidKept (H₀ w.params) s₁.heap, PySem.W.Fast.tw4187177175401517315 q loose (importedModules p.main.body) Xt g0 s₁, Yf s₁)) =
        some (true, openGood q loose, Ya w)) : LeftO p q loose Xt Yf Ya N g0 := fun w => by
  obtain ⟨⟨h, gs, d, k, os⟩, e, e'⟩ := Option.map_eq_some_iff.mp (open_ w)
  obtain ⟨rfl, rfl, rfl, rfl⟩ : h = H₀ w.params ∧ gs = gs₀ ∧ d = d₀ ∧ k = k₀ := by simpa using e'
  obtain ⟨z1, z2, z3⟩ : _ ∧ _ ∧ _ := by simpa only [Prod.mk.injEq] using size w
  have r := run w os
  rw [← PySem.W.Fast.te14082659384304107361, ← PySem.W.Fast.te14364793385576792824, ← PySem.W.Fast.te4187177175401517315] at r
  obtain ⟨s₁, r1, r2⟩ := Option.map_eq_some_iff.mp r
  obtain ⟨l1, l2, l3⟩ : _ ∧ _ ∧ _ := by simpa only [Prod.mk.injEq] using r2
  have t : topFrom treeTable p w N ⟨H₀ w.params, gs, d, k, os⟩ = some s₁ := by
    unfold topFrom
    dsimp only
    rw [z1, z2, z3, r1]
    show (match staticsOk (importedModules p.main.body) (H₀ w.params) s₁.heap && namesBound p s₁.heap && gensDone s₁ && laidKept (H₀ w.params) s₁.heap with | true => _ | false => _) = _
    rw [l1]
  unfold openEnds
  rw [e]
  show Option.map _ (topFrom treeTable p w N _) = _
  rw [t]
  show some (_, _) = _
  rw [l2, l3]
noncomputable def viewq : Program := view PySem.Challenge.rw_wo0020_01.row.prog [1, 2, 4, 5, 6, 7, 9, 11, 12, 13, 14, 15, 17, 18, 19, 20, 21, 22, 23, 24, 25, 26, 27, 28, 29, 30, 31, 32]
theorem opened : ∀ w : World, (fencedOpening treeTable PySem.Challenge.rw_wo0020_01.row.prog w 3410).map (fun s => (s.heap, s.gens, s.drawn, s.toks)) = some (boot_heap w.params, Array.mk [], boot_drawn, boot_toks) :=
  boot_open (by kernel_rfl) (by decide) (fun s => by kernel_rfl)
theorem booted : ∀ w : World, ((boot_heap w.params).isNs mainGlobals && (Array.mk [] : Array GenState).size == 0, (boot_heap w.params).objs.size, (boot_heap w.params).nsMap mainGlobals "__annotations__") = (true, 11, some (.ref 6)) := fun w => by kernel_rfl
theorem said_ok : PySem.Challenge.rw_wo0020_01.wellSaid = true := by decide +kernel
theorem head_of (H : Hook) {d : DefRec} {kwd : List (Str × Expr)} (e1 : defOf viewq PySem.Challenge.rw_wo0020_01.row.name = some (d, kwd)) (e2 : PySem.Challenge.rw_wo0020_01.row.prog.theDef PySem.Challenge.rw_wo0020_01.row.name = some (d.params, d.body, d.scope))
    (e3 : kwWritten? d.params.kwonlyargs d.params.kw_defaults = some kwd)
    (hl : LeftO PySem.Challenge.rw_wo0020_01.row.prog viewq [] (fun s => xlAt viewq [] s && recOk (RowW.records PySem.Challenge.rw_wo0020_01.row.toRowW) s) (Hook.obs H) (Hook.val H) 3410)
    (ok : PySem.Challenge.rw_wo0020_01.row.wellSaid = true) (hw : PySem.Challenge.rw_wo0020_01.row.promised)
    (hc : WalkO viewq [] (XL viewq []) (Hook.says H) PySem.Challenge.rw_wo0020_01.row.toRowW d kwd fun f vs => call f vs) : PySem.Challenge.rw_wo0020_01.row.Holds :=
  holds_open (q := viewq) (loose := []) (Xt := fun s => xlAt viewq [] s && recOk (RowW.records PySem.Challenge.rw_wo0020_01.row.toRowW) s) (XP := XL viewq []) (Yf := Hook.obs H) (Ya := Hook.val H) (YP := Hook.says H) (N := 3410) hl (Hook.of H) (Hook.keeps H)
    (fun s e => xl_of s (Bool.and_eq_true_iff.mp e).1) XL.keeps e1 e2 e3 (fun s e => recFacts_of (Bool.and_eq_true_iff.mp e).2) (by rfl) ok (by decide +kernel) ⟨rfl, rfl, rfl, rfl, rfl, by decide +kernel⟩ hw hc
local macro_rules | `(tactic| o_law) => `(tactic| refine holds_law said_ok fun said => ?_)
local macro_rules | `(tactic| o_head $H) => `(tactic| refine head_of $H (by rfl) (by rfl) (by rfl) (left_of_run opened booted (fun w os => by kernel_rfl)) (by assumption) ?hw ?hc)
open_top hd for PySem.Challenge.rw_wo0020_01
end Mine

/-! B0 -/
namespace Mine

theorem fill : (PySem.Challenge.rw_wo0020_01 = PySem.Challenge.rw_wo0020_01) ∧ hd.heap_1 = hd.heap_1 := by
  k_fill
  exact ⟨rfl, rfl⟩

theorem code_weak {M : Model} {A : Around} {c : Code} {R : Result → Shared → Prop} {s : Shared} {d u : Nat}
    (h1 : A.handled = none) (h2 : A.depth ≤ d) (h3 : A.units ≤ u)
    (h : codeAny M ⟨none, d, none, none, u⟩ c R s) : codeAny M A c R s := fun Γ p hc hΓ =>
  h Γ p hc ⟨hΓ.1.trans h1, Nat.le_trans hΓ.2.1 h2, (fun l e => by cases e), (fun g e => by cases e), Nat.le_trans hΓ.2.2.2.2 h3⟩

/-- entering a plain def: nothing of what stands may change but what `news` names -/
theorem enter {prog : Program} {w : World} {A : Around} {s : Shared} {g : Heap} {news : List (Addr × Obj)} {K : Frag}
    {R : Result → Shared → Prop} {name qual : Str} {params : Arguments} {body : List Stmt} {scope : Scope} {dV kV doc pm cdv ct oc : Value} {an od : Option Addr} {osl : Array (Option Value)} {f : Addr} {args : Args} {binds : List (Str × Value)}
    (X : K.In g) (hlim : g.NoLimit) (st : g.StaysIn s.heap) (sz : g.objs.size ≤ s.heap.objs.size) (N : ∀ p ∈ news, s.heap.get? p.1 = some p.2 ∧ g.get? p.1 = none)
    (ho : K.lookup f = some ⟨oc, od, .func (fnOf name qual params body scope dV kV doc pm an cdv ct), osl⟩) (hcd : codeIn K cdv qual = true) (hroom : A.depth < recursionLimit)
    (hbind : BindsTo s (fnOf name qual params body scope dV kV doc pm an cdv ct) args binds) (hloc : ∀ y ∈ binds, scope.names.lookup y.1 = some .local)
    (h : ∀ L' h₁, Fr g L' h₁ (fun y => binds.reverse.lookup y) → News g L' h₁ news → L' = s.heap.objs.size →
      wpAny (model prog w) (A.deeper (envOf qual scope L' f cdv)) (execs body (envOf qual scope L' f cdv))
        (fun fl s' => R (.ok (.ret (match fl with | .ret v => v | _ => .none))) s')
        (fun _ _ => False)
        { s with heap := h₁, toks := s.toks + binds.length })
    (hco : scope.isCoroutine = false := by rfl) (hgen : scope.isGenerator = false := by rfl) (hk : scope.kind = .function := by rfl)
    (hcell : ∀ x ∈ scope.names, x.2 ≠ .cell := by decide) : codeAny (model prog w) A (.call (.ref f) args) R s := by
  have X' : K.In s.heap := X.keeps st
  refine codeAny_call_def (fd := fnOf name qual params body scope dV kV doc pm an cdv ct) (body := body) (binds := binds) hroom (X' _ _ ho) rfl (hlim.keeps st) (codeRec_of X' hcd) rfl hbind hcell hloc (fun h₁ hns hk₁ => ?_) hco hgen hk
  refine wpAny_mono (h s.heap.objs.size h₁ ⟨hns, fun b o e => hk₁ b o (st b o e), sz⟩
    (fun p hp => ⟨hk₁ _ _ (N p hp).1, Nat.ne_of_lt (Heap.lt_size (N p hp).1), (N p hp).2⟩) rfl) (fun _ _ y => y) (fun _ _ y => y.elim)


theorem enterC {prog : Program} {w : World} {A : Around} {s : Shared} {g : Heap} {news : List (Addr × Obj)} {K : Frag}
    {R : Result → Shared → Prop} {name qual : Str} {params : Arguments} {body : List Stmt} {scope : Scope} {dV kV doc pm cdv ct oc : Value} {an od : Option Addr} {osl : Array (Option Value)} {f : Addr} {args : Args} {binds : List (Str × Value)}
    (X : K.In g) (hlim : g.NoLimit) (st : g.StaysIn s.heap) (sz : g.objs.size ≤ s.heap.objs.size) (N : ∀ p ∈ news, s.heap.get? p.1 = some p.2 ∧ g.get? p.1 = none)
    (ho : K.lookup f = some ⟨oc, od, .func (fnOf name qual params body scope dV kV doc pm an cdv ct), osl⟩) (hcd : codeIn K cdv qual = true) (hroom : A.depth < recursionLimit)
    (hbind : BindsTo s (fnOf name qual params body scope dV kV doc pm an cdv ct) args binds)
    (hkind : (binds.all fun y => scope.names.lookup y.1 == some .local || scope.names.lookup y.1 == some .cell) = true)
    (hnd : ((cellsFrom 0 scope.names []).map (·.1)).Nodup)
    (h : ∀ L' h₁ tk cells, Fr g L' h₁ (bindL (envOfC qual scope L' f cdv).kindOf binds fun _ => none) → News g L' h₁ (cells ++ news) →
      CellsAre (bindC (envOfC qual scope L' f cdv).kindOf binds fun _ => none) (cellsFrom (L' + 1) scope.names []) cells → (∀ p ∈ news, p.1 < L') → L' = s.heap.objs.size →
      wpAny (model prog w) (A.deeper (envOfC qual scope L' f cdv)) (execs body (envOfC qual scope L' f cdv))
        (fun fl s' => R (.ok (.ret (match fl with | .ret v => v | _ => .none))) s')
        (fun _ _ => False)
        { s with heap := h₁, toks := tk })
    (hco : scope.isCoroutine = false := by rfl) (hgen : scope.isGenerator = false := by rfl) (hk : scope.kind = .function := by rfl) : codeAny (model prog w) A (.call (.ref f) args) R s := by
  have X' : K.In s.heap := X.keeps st
  refine codeAny_call_function (fd := fnOf name qual params body scope dV kV doc pm an cdv ct) (body := body) hroom (X' _ _ ho) rfl hco hgen rfl (codeRec_of X' hcd) (hbind _ _ _ _ ?_)
  refine wpAny_newFunctionEnv_cells hk (kindsX hkind _) fun env' he s' x => ?_
  subst he
  refine ⟨(hlim.keeps st).keeps x.toInCall.keep, codeAny_func ?_⟩
  obtain ⟨h₁, tk, rfl, _⟩ := x.done
  have hk₁ := x.toInCall.keep
  obtain ⟨cells, NC, Y⟩ := Cl.news (h₀ := s.heap) (Nat.le_refl _) fun n c hm => ⟨x.cell n c (lookup_of_mem_nodup (cellsFrom_names scope.names 0 (s.heap.objs.size + 1) [] [] rfl ▸ hnd) hm), x.above n c hm⟩
  refine wpAny_mono (h s.heap.objs.size h₁ tk cells ⟨x.toInCall.ns, fun b o e => hk₁ b o (st b o e), sz⟩ (fun p hp => ?_) Y (fun p hp => Heap.lt_size (N p hp).1) rfl) (fun _ _ y => y) fun _ _ y => y.elim
  rcases List.mem_append.mp hp with hp | hp
  · refine ⟨(NC p hp).1, (NC p hp).2.1, ?_⟩
    cases q : g.get? p.1 with
    | none => rfl
    | some o => have := st _ _ q; rw [(NC p hp).2.2] at this; cases this
  · exact ⟨hk₁ _ _ (N p hp).1, Nat.ne_of_lt (Heap.lt_size (N p hp).1), (N p hp).2⟩


end Mine
namespace Mine
theorem fill_all : (PySem.Challenge.rw_wo0020_01 = PySem.Challenge.rw_wo0020_01) ∧ hd.heap_1 = hd.heap_1 := by
  k_fill
  exact ⟨rfl, rfl⟩
end Mine
/-! B0X -/
namespace Mine
/-- a post hidden behind a letter, so that the walk's steps need not bear it -/
noncomputable def Hid {α : Type} (Q Q' : α → Shared → Prop) : Prop := ∀ f s, Q f s → Q' f s
theorem Hid.use {α : Type} {Q Q' : α → Shared → Prop} (h : Hid Q Q') {f : α} {s : Shared} (q : Q f s) : Q' f s := h f s q
theorem hideQ {M : Model} {A : Around} {α : Type} {t : Sem α} {Q : α → Shared → Prop} {E : Value → Shared → Prop} {s : Shared} (h : ∀ Q' : α → Shared → Prop, Hid Q Q' → wpAny M A t Q' E s) : wpAny M A t Q E s := h Q fun _ _ x => x
inductive Ex2 {α1 α2 : Type} (B : α1 → α2 → Prop) : Prop
  | intro (x1 : α1) (x2 : α2) (h : B x1 x2)
inductive Ex3 {α1 α2 α3 : Type} (B : α1 → α2 → α3 → Prop) : Prop
  | intro (x1 : α1) (x2 : α2) (x3 : α3) (h : B x1 x2 x3)
inductive Ex4 {α1 α2 α3 α4 : Type} (B : α1 → α2 → α3 → α4 → Prop) : Prop
  | intro (x1 : α1) (x2 : α2) (x3 : α3) (x4 : α4) (h : B x1 x2 x3 x4)
inductive Ex5 {α1 α2 α3 α4 α5 : Type} (B : α1 → α2 → α3 → α4 → α5 → Prop) : Prop
  | intro (x1 : α1) (x2 : α2) (x3 : α3) (x4 : α4) (x5 : α5) (h : B x1 x2 x3 x4 x5)
inductive Ex6 {α1 α2 α3 α4 α5 α6 : Type} (B : α1 → α2 → α3 → α4 → α5 → α6 → Prop) : Prop
  | intro (x1 : α1) (x2 : α2) (x3 : α3) (x4 : α4) (x5 : α5) (x6 : α6) (h : B x1 x2 x3 x4 x5 x6)
inductive Ex7 {α1 α2 α3 α4 α5 α6 α7 : Type} (B : α1 → α2 → α3 → α4 → α5 → α6 → α7 → Prop) : Prop
  | intro (x1 : α1) (x2 : α2) (x3 : α3) (x4 : α4) (x5 : α5) (x6 : α6) (x7 : α7) (h : B x1 x2 x3 x4 x5 x6 x7)
inductive Ex9 {α1 α2 α3 α4 α5 α6 α7 α8 α9 : Type} (B : α1 → α2 → α3 → α4 → α5 → α6 → α7 → α8 → α9 → Prop) : Prop
  | intro (x1 : α1) (x2 : α2) (x3 : α3) (x4 : α4) (x5 : α5) (x6 : α6) (x7 : α7) (x8 : α8) (x9 : α9) (h : B x1 x2 x3 x4 x5 x6 x7 x8 x9)
structure A3 (p1 p2 p3 : Prop) : Prop where
  mk :: (h1 : p1) (h2 : p2) (h3 : p3)
structure A4 (p1 p2 p3 p4 : Prop) : Prop where
  mk :: (h1 : p1) (h2 : p2) (h3 : p3) (h4 : p4)
structure A5 (p1 p2 p3 p4 p5 : Prop) : Prop where
  mk :: (h1 : p1) (h2 : p2) (h3 : p3) (h4 : p4) (h5 : p5)
structure A6 (p1 p2 p3 p4 p5 p6 : Prop) : Prop where
  mk :: (h1 : p1) (h2 : p2) (h3 : p3) (h4 : p4) (h5 : p5) (h6 : p6)
structure A7 (p1 p2 p3 p4 p5 p6 p7 : Prop) : Prop where
  mk :: (h1 : p1) (h2 : p2) (h3 : p3) (h4 : p4) (h5 : p5) (h6 : p6) (h7 : p7)
structure A8 (p1 p2 p3 p4 p5 p6 p7 p8 : Prop) : Prop where
  mk :: (h1 : p1) (h2 : p2) (h3 : p3) (h4 : p4) (h5 : p5) (h6 : p6) (h7 : p7) (h8 : p8)
structure A9 (p1 p2 p3 p4 p5 p6 p7 p8 p9 : Prop) : Prop where
  mk :: (h1 : p1) (h2 : p2) (h3 : p3) (h4 : p4) (h5 : p5) (h6 : p6) (h7 : p7) (h8 : p8) (h9 : p9)
structure A10 (p1 p2 p3 p4 p5 p6 p7 p8 p9 p10 : Prop) : Prop where
  mk :: (h1 : p1) (h2 : p2) (h3 : p3) (h4 : p4) (h5 : p5) (h6 : p6) (h7 : p7) (h8 : p8) (h9 : p9) (h10 : p10)
structure A13 (p1 p2 p3 p4 p5 p6 p7 p8 p9 p10 p11 p12 p13 : Prop) : Prop where
  mk :: (h1 : p1) (h2 : p2) (h3 : p3) (h4 : p4) (h5 : p5) (h6 : p6) (h7 : p7) (h8 : p8) (h9 : p9) (h10 : p10) (h11 : p11) (h12 : p12) (h13 : p13)

end Mine
/-! B1 -/
namespace Mine
section
variable {prog : Program} {w : World} {A : Around} {h₀ : Heap}

/-- what a turn of a for loop leaves -/
noncomputable def Turn (h₀ : Heap) (L I : Addr) (oI : Obj) (J : (Str → Option Value) → List (Addr × Obj) → Prop) (Q : Flow → Shared → Prop) (s : Shared) (f : Flow) (s' : Shared) : Prop :=
  match f with
  | .ret v => Q (.ret v) s'
  | .brk => Q .next s'
  | _ => ∃ h' tk m' news', s' = { s with heap := h', toks := tk } ∧ Fr h₀ L h' m' ∧ News h₀ L h' ((I, oI) :: news') ∧ (∀ p ∈ news', p.1 ≠ I) ∧ J m' news'

theorem Turn.next {L I : Addr} {oI : Obj} {J : (Str → Option Value) → List (Addr × Obj) → Prop} {Q : Flow → Shared → Prop} {s : Shared} {h' : Heap} {tk : Nat} {m' : Str → Option Value} (news' : List (Addr × Obj)) {all : List (Addr × Obj)}
    (F : Fr h₀ L h' m') (N : News h₀ L h' all) (hs : ∀ p ∈ (I, oI) :: news', p ∈ all) (ha : ∀ p ∈ news', p.1 ≠ I) (hJ : J m' news') : Turn h₀ L I oI J Q s .next { s with heap := h', toks := tk } :=
  ⟨h', tk, m', news', rfl, F, fun p hp => N p (hs p hp), ha, hJ⟩

theorem for_core {env : Env} {x : Str} {px : Pos} {body : List Stmt} {R : Result → Shared → Prop} {s : Shared} {I : Addr} {fp : List Addr} {n : Nat} {P : Nat → Value → Prop} {St : Nat → Heap → Prop} {m₀ : Str → Option Value} {news₀ : List (Addr × Obj)} {src : List (Addr × Obj)}
    {Q : Flow → Shared → Prop}
    (J : Nat → (Str → Option Value) → List (Addr × Obj) → Prop)
    (hx : env.kindOf x = some .local) (hp : (env.scope.kind == .class || (env.scope.kind == .module && env.locals != env.globals)) = false)
    (W : Walks prog w A I fp [I] n P St) (hIL : I ≠ env.locals) (hI0 : h₀.get? I = none) (hLf : env.locals ∉ fp)
    (hfp : ∀ b ∈ fp, b = I ∨ (∃ o, h₀.get? b = some o) ∨ ∃ o, (b, o) ∈ src)
    (hsrc : ∀ i m news, J i m news → ∀ p ∈ src, p ∈ news)
    (hIo : ∀ i h, St i h → ∃ o, h.get? I = some o)
    (hst : St 0 s.heap) (F : Fr h₀ env.locals s.heap m₀) (N : News h₀ env.locals s.heap news₀) (hap : ∀ p ∈ news₀, p.1 ≠ I) (h0 : J 0 m₀ news₀)
    (hRet : ∀ v s', Q (.ret v) s' → R (.ok (.ret v)) s') (hBrk : ∀ s', Q .next s' → R (.ok .next) s')
    (turn : ∀ i v m news oI h tk E', i < n → P i v → J i m news → Fr h₀ env.locals h (fun y => if y = x then some v else m y) → News h₀ env.locals h ((I, oI) :: news) → (∀ p ∈ news, p.1 ≠ I) →
      wpAny (model prog w) A (execs body env) (Turn h₀ env.locals I oI (J (i + 1)) Q { s with heap := h, toks := tk }) E' { s with heap := h, toks := tk })
    (done : ∀ m news h tk, J n m news → Fr h₀ env.locals h m → News h₀ env.locals h news → R (.ok .next) { s with heap := h, toks := tk }) :
    codeAny (model prog w) A (.forLoop (.Name x px) (.ref I) body [] env) R s := by
  refine codeAny_forLoop
    (fun k s' => Ex5 fun h' tk m' news' i => A8 (s' = { s with heap := h', toks := tk }) (St i h') (Fr h₀ env.locals h' m') (News h₀ env.locals h' news') ((∀ p ∈ news', p.1 ≠ I)) (J i m' news') (i ≤ n) (k = n + 1 - i)) ?_ (n + 1)
    ⟨s.heap, s.toks, m₀, news₀, 0, rfl, hst, F, N, hap, h0, Nat.zero_le _, rfl⟩
  rintro k s' ⟨h', tk, m', news', i, rfl, hst', F', N', hap', hJ, hi, rfl⟩
  have keepF : ∀ h₁ : Heap, (∀ b o, b ∉ [I] → h'.get? b = some o → h₁.get? b = some o) → Fr h₀ env.locals h₁ m' ∧ News h₀ env.locals h₁ news' := fun h₁ hk =>
    ⟨⟨F'.ns.at' fun o e => hk _ o (fun hm => hIL (List.mem_singleton.mp hm).symm) e, fun b o e => hk b o (fun hm => by rw [List.mem_singleton.mp hm, hI0] at e; cases e) (F'.keep b o e), F'.above⟩,
      fun p hp => ⟨hk _ _ (fun hm => hap' p hp (List.mem_singleton.mp hm)) (N' p hp).1, (N' p hp).2⟩⟩
  by_cases hlt : i < n
  · refine W.item i _ _ _ hlt hst' fun v h₁ tk₁ hP hst₁ hk₁ => ?_
    obtain ⟨F₁, N₁⟩ := keepF h₁ hk₁
    refine wpAny_assign_Name (wpAny_storeName_local hx F₁.ns (fun h₂ hn₂ hs₂ => ?_) hp)
    have F₂ := F₁.set hn₂ hs₂
    have hst₂ : St (i + 1) h₂ := W.frame _ _ _ hst₁ fun b hb o e => hs₂.extBut b o (fun q => hLf (q ▸ hb)) e
    obtain ⟨oI, hoI⟩ := hIo _ _ hst₂
    have N₂ : News h₀ env.locals h₂ ((I, oI) :: news') := fun p hp => by
      rcases List.mem_cons.mp hp with rfl | hp
      · exact ⟨hoI, hIL, hI0⟩
      · exact (N₁.set hs₂) p hp
    refine wpAny_mono (turn i v m' news' oI h₂ _ _ hlt hP hJ F₂ N₂ hap') (fun f s₃ h₃ => ?_) fun _ _ e => e
    have go : (∃ h' tk m' news', s₃ = { ({ s with heap := h₂, toks := tk₁ + 1 } : Shared) with heap := h', toks := tk } ∧ Fr h₀ env.locals h' m' ∧ News h₀ env.locals h' ((I, oI) :: news') ∧ (∀ p ∈ news', p.1 ≠ I) ∧ J (i + 1) m' news') →
        ∃ k, k < n + 1 - i ∧ /-EX-/ Ex5 fun h' tk m' news' j => A8 (s₃ = { s with heap := h', toks := tk }) (St j h') (Fr h₀ env.locals h' m') (News h₀ env.locals h' news') ((∀ p ∈ news', p.1 ≠ I)) (J j m' news') (j ≤ n) (k = n + 1 - j)/-XE-/ := by
      rintro ⟨g₃, tk₃, m₃, news₃, rfl, F₃, N₃, hap₃, hJ₃⟩
      refine ⟨n + 1 - (i + 1), by omega, g₃, tk₃, m₃, news₃, i + 1, rfl, ?_, F₃, fun p hp => N₃ p (List.mem_cons_of_mem _ hp), hap₃, hJ₃, hlt, rfl⟩
      refine W.frame _ _ _ hst₂ fun b hb o e => ?_
      rcases hfp b hb with rfl | ⟨o₀, e₀⟩ | ⟨o₀, hm⟩
      · have z := (N₃ _ (List.mem_cons_self ..)).1
        rw [hoI] at e; cases e; exact z
      · have : o₀ = o := by have := F₂.keep b o₀ e₀; rw [e] at this; exact (Option.some.inj this).symm
        exact this ▸ F₃.keep b o₀ e₀
      · have z := (N₂ _ (List.mem_cons_of_mem _ (hsrc i m' news' hJ _ hm))).1
        have z' := (N₃ _ (List.mem_cons_of_mem _ (hsrc (i + 1) m₃ news₃ hJ₃ _ hm))).1
        dsimp only at z z'
        rw [z] at e; cases e; exact z'
    cases f with
    | ret v => exact hRet v s₃ h₃
    | brk => exact hBrk s₃ h₃
    | next => exact go h₃
    | cont => exact go h₃
  · have hin : i = n := by omega
    subst hin
    refine W.done _ _ _ hst' fun h₁ tk₁ hk₁ => wpAny_execs_nil ?_
    obtain ⟨F₁, N₁⟩ := keepF h₁ hk₁
    exact done m' news' h₁ tk₁ hJ F₁ N₁

/-- the end of a for loop, as wpAny_For asks it -/
noncomputable def ForR (M : Model) (A : Around) (env : Env) (Q : Flow → Shared → Prop) (E : Value → Shared → Prop) (r : Result) (s' : Shared) : Prop :=
  match r with
  | .ok f => Q f s'
  | .error e => cameBackBy M A env E e s'

noncomputable def ForAt (prog : Program) (w : World) (A : Around) (env : Env) (target : Expr) (body orelse : List Stmt) (Q : Flow → Shared → Prop) (E : Value → Shared → Prop) (x : Value) (s₁ : Shared) : Prop :=
  wpAny (model prog w) A (pyIter x) (fun it s₂ => codeAny (model prog w) A (.forLoop target it body orelse env) (ForR (model prog w) A env Q E) s₂) E s₁

theorem For_ {env : Env} {target iter : Expr} {body orelse : List Stmt} {pos : Pos} {Q : Flow → Shared → Prop} {E : Value → Shared → Prop} {s : Shared}
    (h : wpAny (model prog w) A (eval iter env) (ForAt prog w A env target body orelse Q E) E s)
    (hs : ∀ x, foldedSetIterable iter env x = pure x := by intro _; rfl) : wpAny (model prog w) A (exec (.For target iter body orelse pos) env) Q E s :=
  wpAny_For (wpAny_mono h (fun _ _ h₁ => wpAny_mono h₁ (fun _ _ h₂ => codeAny_mono h₂ fun r _ h₃ => by cases r <;> exact h₃) fun _ _ e => e) fun _ _ e => e) hs

theorem for_list {env : Env} {x : Str} {px : Pos} {body : List Stmt} {E : Value → Shared → Prop} {s : Shared} {l : Addr} {its : Array Value} {m₀ : Str → Option Value} {news₀ : List (Addr × Obj)} {src : List (Addr × Obj)}
    {Q : Flow → Shared → Prop}
    (J : Nat → (Str → Option Value) → List (Addr × Obj) → Prop)
    (hh : A.handled = none) (F : Fr h₀ env.locals s.heap m₀) (N : News h₀ env.locals s.heap news₀)
    (hl : (h₀.IsList l its ∧ src = []) ∨ ∃ k, src = [(l, W.listOf its k)])
    (hsrc : ∀ i m news, J i m news → ∀ p ∈ src, p ∈ news)
    (h0 : J 0 m₀ news₀)
    (turn : ∀ i v m news I oI h tk E', its[i]? = some v → J i m news → Fr h₀ env.locals h (fun y => if y = x then some v else m y) → News h₀ env.locals h ((I, oI) :: news) → (∀ p ∈ news, p.1 ≠ I) → s.heap.get? I = none →
      wpAny (model prog w) A (execs body env) (Turn h₀ env.locals I oI (J (i + 1)) Q { s with heap := h, toks := tk }) E' { s with heap := h, toks := tk })
    (done : ∀ m news h tk, J its.size m news → Fr h₀ env.locals h m → News h₀ env.locals h news → Q .next { s with heap := h, toks := tk })
    (hx : env.kindOf x = some .local := by rfl) (hp : (env.scope.kind == .class || (env.scope.kind == .module && env.locals != env.globals)) = false := by rfl) :
    ForAt prog w A env (.Name x px) body [] Q E (.ref l) s := by
  unfold ForAt
  have hls : s.heap.IsList l its := by
    rcases hl with ⟨hl, _⟩ | ⟨k, rfl⟩
    · exact hl.at fun o e => F.keep l o e
    · exact ⟨_, (N _ (hsrc _ _ _ h0 _ (List.mem_singleton.mpr rfl))).1, rfl, k, rfl⟩
  obtain ⟨ol, hol, _⟩ := id hls
  have hlt := Heap.lt_size hol
  have hne : l ≠ s.heap.objs.size := Nat.ne_of_lt hlt
  have hlL : l ≠ env.locals := by
    rcases hl with ⟨⟨o, e, _⟩, _⟩ | ⟨k, rfl⟩
    · exact Nat.ne_of_lt (Nat.lt_of_lt_of_le (Heap.lt_size e) F.above)
    · exact (N _ (hsrc _ _ _ h0 _ (List.mem_singleton.mpr rfl))).2.1
  refine wpAny_pyIter_list hls ?_
  have fresh : s.heap.get? s.heap.objs.size = none := by
    cases e : s.heap.get? s.heap.objs.size with
    | none => rfl
    | some o => exact absurd (Heap.lt_size e) (Nat.lt_irrefl _)
  refine for_core J hx hp (Walks.list hh s.heap.objs.size l hne its) (Ne.symm (Nat.ne_of_lt F.ns.lt)) (next_is_new F) ?_ ?_ hsrc (fun i h st => by obtain ⟨o, e, _⟩ := st.1; exact ⟨o, e⟩)
    ⟨⟨_, Heap.get?_push_size _ rfl, rfl, rfl⟩, hls.push _⟩ (F.push _) (N.grown fun _ _ e => Heap.get?_push_of_some _ e) (fun p hp => Nat.ne_of_lt (Heap.lt_size (N p hp).1)) h0 (fun _ _ q => q) (fun _ q => q)
    (fun i v m news oI h tk E' hi hP hJ F' N' ha => turn i v m news _ oI h tk E' hP hJ F' N' ha fresh) (fun m news h tk hJ F' N' => done m news h tk hJ F' N')
  · intro hm
    rcases List.mem_cons.mp hm with e | hm
    · exact absurd F.ns.lt (e ▸ Nat.lt_irrefl _)
    · exact hlL (List.mem_singleton.mp hm).symm
  · intro b hb
    rcases List.mem_cons.mp hb with rfl | hb
    · exact .inl rfl
    · rw [List.mem_singleton.mp hb]
      rcases hl with ⟨⟨o, e, _⟩, _⟩ | ⟨k, rfl⟩
      · exact .inr (.inl ⟨o, e⟩)
      · exact .inr (.inr ⟨_, List.mem_singleton.mpr rfl⟩)

theorem for_range {env : Env} {x : Str} {px : Pos} {body : List Stmt} {E : Value → Shared → Prop} {s : Shared} {r : Addr} {a b : Int} {t u v : Tok} {n : Nat} {m₀ : Str → Option Value} {news₀ : List (Addr × Obj)}
    {Q : Flow → Shared → Prop}
    (J : Nat → (Str → Option Value) → List (Addr × Obj) → Prop)
    (hh : A.handled = none) (F : Fr h₀ env.locals s.heap m₀) (N : News h₀ env.locals s.heap news₀)
    (hr : IsRange s.heap r a b 1 t u v) (hsm : Builtin.Range.small a b 1 = true) (hn : Builtin.Range.rangeSize a b 1 = ((n : Nat) : Int))
    (h0 : J 0 m₀ news₀)
    (turn : ∀ i (tv : Tok) m news I oI h tk E', i < n → J i m news → Fr h₀ env.locals h (fun y => if y = x then some (.int (a + (i : Int)) tv) else m y) → News h₀ env.locals h ((I, oI) :: news) → (∀ p ∈ news, p.1 ≠ I) → s.heap.get? I = none →
      wpAny (model prog w) A (execs body env) (Turn h₀ env.locals I oI (J (i + 1)) Q { s with heap := h, toks := tk }) E' { s with heap := h, toks := tk })
    (done : ∀ m news h tk, J n m news → Fr h₀ env.locals h m → News h₀ env.locals h news → Q .next { s with heap := h, toks := tk })
    (hx : env.kindOf x = some .local := by rfl) (hp : (env.scope.kind == .class || (env.scope.kind == .module && env.locals != env.globals)) = false := by rfl) :
    ForAt prog w A env (.Name x px) body [] Q E (.ref r) s := by
  unfold ForAt
  refine wpAny_pyIter_range hr hsm ?_
  have fresh : s.heap.get? s.heap.objs.size = none := by
    cases e : s.heap.get? s.heap.objs.size with
    | none => rfl
    | some o => exact absurd (Heap.lt_size e) (Nat.lt_irrefl _)
  refine for_core (src := []) J hx hp (LCg.range_walks hh a n) (Ne.symm (Nat.ne_of_lt F.ns.lt)) (next_is_new F) ?_ ?_ (fun _ _ _ _ _ hp => nomatch hp) (fun i h st => ⟨_, st⟩)
    (by show IsRangeIter _ _ _ _ _; rw [hn]; simpa using Heap.get?_push_size _ rfl) (F.push _) (N.grown fun _ _ e => Heap.get?_push_of_some _ e) (fun p hp => Nat.ne_of_lt (Heap.lt_size (N p hp).1)) h0 (fun _ _ q => q) (fun _ q => q)
    (fun i v m news oI h tk E' hi hP hJ F' N' ha => by obtain ⟨tv, rfl⟩ := hP; exact turn i tv m news _ oI h tk E' hi hJ F' N' ha fresh) (fun m news h tk hJ F' N' => done m news h tk hJ F' N')
  · intro hm
    exact absurd F.ns.lt ((List.mem_singleton.mp hm) ▸ Nat.lt_irrefl _)
  · intro b hb
    exact .inl (List.mem_singleton.mp hb)
end
/-- the names of a frame, written down -/
noncomputable def named (names : List (Str × Value)) (m : Str → Option Value) (y : Str) : Option Value := match names.lookup y with
  | some v => some v
  | none => m y
theorem named_eq : ∀ (names : List (Str × Value)) {m : Str → Option Value}, (∀ p ∈ names, m p.1 = some p.2) → named names m = m
  | [], m, _ => rfl
  | (x, v) :: r, m, hm => by
    have ih := named_eq r (m := m) (fun p hp => hm p (.tail _ hp))
    funext y
    have := congrFun ih y
    unfold named at this ⊢
    rw [List.lookup_cons]
    by_cases e : y == x
    · simp only [e]
      have : y = x := by simpa using e
      rw [this]; exact (hm _ (.head _)).symm
    · simp only [e]
      exact this
theorem frNames {h₀ h : Heap} {L : Addr} {m : Str → Option Value} {x : Str} {v : Value} (names : List (Str × Value)) (F : Fr h₀ L h (fun y => if y = x then some v else m y)) (hm : ∀ p ∈ names, m p.1 = some p.2) :
    Fr h₀ L h (fun y => if y = x then some v else match names.lookup y with | some v => some v | none => m y) := by
  have e : (fun y => match names.lookup y with | some v => some v | none => m y) = m := named_eq names hm
  have : (fun y => if y = x then some v else match names.lookup y with | some v => some v | none => m y) = fun y => if y = x then some v else m y := by
    funext y; rw [congrFun e y]
  rw [this]; exact F
theorem frNames' {h₀ h : Heap} {L : Addr} {m : Str → Option Value} (names : List (Str × Value)) (F : Fr h₀ L h m) (hm : ∀ p ∈ names, m p.1 = some p.2) :
    Fr h₀ L h (fun y => match names.lookup y with | some v => some v | none => m y) := by
  have e : (fun y => match names.lookup y with | some v => some v | none => m y) = m := named_eq names hm
  rw [e]; exact F

end Mine
/-! BX -/
namespace Mine
noncomputable def gotN (m : Str → Option Value) : List (Str × Value) → List (Option Value)
  | [] => []
  | p :: r => m p.1 :: gotN m r
noncomputable def wantN : List (Str × Value) → List (Option Value)
  | [] => []
  | p :: r => some p.2 :: wantN r
theorem names_all {m : Str → Option Value} : ∀ {l : List (Str × Value)}, gotN m l = wantN l → ∀ p ∈ l, m p.1 = some p.2
  | [], _, _, h => nomatch h
  | q :: r, e, p, h => by
    have e1 : m q.1 :: gotN m r = some q.2 :: wantN r := e
    obtain ⟨e2, e3⟩ := List.cons.inj e1
    rcases List.mem_cons.mp h with rfl | h
    · exact e2
    · exact names_all e3 p h
theorem frNamesE {h₀ h : Heap} {L : Addr} {m : Str → Option Value} {x : Str} {v : Value} (names : List (Str × Value)) (F : Fr h₀ L h (fun y => if y = x then some v else m y)) (hm : gotN m names = wantN names) :
    Fr h₀ L h (fun y => if y = x then some v else match names.lookup y with | some v => some v | none => m y) := frNames names F (names_all hm)
theorem frNamesE' {h₀ h : Heap} {L : Addr} {m : Str → Option Value} (names : List (Str × Value)) (F : Fr h₀ L h m) (hm : gotN m names = wantN names) :
    Fr h₀ L h (fun y => match names.lookup y with | some v => some v | none => m y) := frNames' names F (names_all hm)

end Mine
/-! B2 -/
namespace Mine
section
variable {prog : Program} {w : World} {A : Around} {h₀ : Heap}

/-- the tests of a one-clause comprehension -/
noncomputable def tests (ifs : List Expr) (cenv : Env) : Sem Bool :=
  forIn ifs true fun c r => if r = true then do let ok ← isTrue c cenv (eval c cenv); pure (ForInStep.yield ok) else pure (ForInStep.yield r)

theorem tests_nil {M : Model} {cenv : Env} {Q : Bool → Shared → Prop} {E : Value → Shared → Prop} {s : Shared} (h : Q true s) : wpAny M A (tests [] cenv) Q E s := by
  unfold tests
  exact wpAny_pure h
theorem tests_one {M : Model} {c : Expr} {cenv : Env} {Q : Bool → Shared → Prop} {E : Value → Shared → Prop} {s : Shared} (h : wpAny M A (isTrue c cenv (eval c cenv)) Q E s) : wpAny M A (tests [c] cenv) Q E s := by
  unfold tests
  simp only [List.forIn_cons, if_true]
  refine wpAny_bind (wpAny_bind (wpAny_mono h (fun ok s' h' => ?_) fun _ _ e => e))
  exact wpAny_pure (wpAny_pure h')

/-- what the tests leave: the locals as they stood, the ledger grown -/
noncomputable def CTest (g : Heap) (C I D : Addr) (oI : Obj) (lD : Obj) (m : Str → Option Value) (J : Bool → List (Addr × Obj) → Prop) (s : Shared) (b : Bool) (s' : Shared) : Prop :=
  ∃ h' tk news', s' = { s with heap := h', toks := tk } ∧ Fr g C h' m ∧ News g C h' ((I, oI) :: (D, lD) :: news') ∧ (∀ p ∈ news', p.1 ≠ I ∧ p.1 ≠ D) ∧ J b news'
theorem CTest.intro {g : Heap} {C I D : Addr} {oI lD : Obj} {m : Str → Option Value} {J : Bool → List (Addr × Obj) → Prop} {s : Shared} {b : Bool} {h' : Heap} {tk : Nat} (news' : List (Addr × Obj)) {all : List (Addr × Obj)}
    (F : Fr g C h' m) (N : News g C h' all) (hs : ∀ p ∈ (I, oI) :: (D, lD) :: news', p ∈ all) (ha : ∀ p ∈ news', p.1 ≠ I ∧ p.1 ≠ D) (hJ : J b news') : CTest g C I D oI lD m J s b { s with heap := h', toks := tk } :=
  ⟨h', tk, news', rfl, F, fun p hp => N p (hs p hp), ha, hJ⟩
noncomputable def CElt (g : Heap) (C I D : Addr) (oI : Obj) (lD : Obj) (m : Str → Option Value) (J : Value → List (Addr × Obj) → Prop) (s : Shared) (y : Value) (s' : Shared) : Prop :=
  ∃ h' tk news', s' = { s with heap := h', toks := tk } ∧ Fr g C h' m ∧ News g C h' ((I, oI) :: (D, lD) :: news') ∧ (∀ p ∈ news', p.1 ≠ I ∧ p.1 ≠ D) ∧ J y news'
theorem CElt.intro {g : Heap} {C I D : Addr} {oI lD : Obj} {m : Str → Option Value} {J : Value → List (Addr × Obj) → Prop} {s : Shared} {y : Value} {h' : Heap} {tk : Nat} (news' : List (Addr × Obj)) {all : List (Addr × Obj)}
    (F : Fr g C h' m) (N : News g C h' all) (hs : ∀ p ∈ (I, oI) :: (D, lD) :: news', p ∈ all) (ha : ∀ p ∈ news', p.1 ≠ I ∧ p.1 ≠ D) (hJ : J y news') : CElt g C I D oI lD m J s y { s with heap := h', toks := tk } :=
  ⟨h', tk, news', rfl, F, fun p hp => N p (hs p hp), ha, hJ⟩

theorem only_if {x : Str} {v v' : Value} : (fun y => if y = x then some v else if y = x then some v' else none) = (fun y : Str => if y = x then some v else none) := by
  funext y; by_cases h : y = x <;> simp [h]

theorem comp_core {env : Env} {elt iter : Expr} {x : Str} {px : Pos} {ifs : List Expr} {scope : Scope} {cl : List (Str × Addr)} {pos : Pos} {Q : Value → Shared → Prop} {E : Value → Shared → Prop}
    {s₁ : Shared} {oI₀ : Obj} {fp : List Addr} {n : Nat} {P : Nat → Value → Prop} {St : Nat → Heap → Prop}
    (J : Nat → List Value → List (Addr × Obj) → Prop)
    (hcell : ∀ y ∈ scope.names, y.2 ≠ .cell) (hkind : scope.kind = .function) (hx : scope.names.lookup x = some .local)
    (W : Walks prog w A s₁.heap.objs.size fp [s₁.heap.objs.size] n P St) (hsz : n ≤ sizeLine)
    (hfp : ∀ b ∈ fp, b = s₁.heap.objs.size ∨ (∃ o, s₁.heap.get? b = some o)) (hfree : oI₀.isFreed = false)
    (hIo : ∀ i h, St i h → ∃ o, h.get? s₁.heap.objs.size = some o)
    (hst : St 0 (s₁.heap.push oI₀)) (h0 : J 0 [] [])
    (test : ∀ i v ys news C D oI h tk E', i < n → P i v → J i ys news → Fr s₁.heap C h (fun y => if y = x then some v else none) → News s₁.heap C h ((s₁.heap.objs.size, oI) :: (D, PySem.W.listOf ys.toArray ys.length) :: news) → (∀ p ∈ news, p.1 ≠ s₁.heap.objs.size ∧ p.1 ≠ D) → D ≠ s₁.heap.objs.size →
      wpAny (model prog w) A (tests ifs (compEnvC scope cl C env)) (CTest s₁.heap C s₁.heap.objs.size D oI (PySem.W.listOf ys.toArray ys.length) (fun y => if y = x then some v else none)
        (fun b news' => if b = true then ∀ oI h tk E', Fr s₁.heap C h (fun y => if y = x then some v else none) → News s₁.heap C h ((s₁.heap.objs.size, oI) :: (D, PySem.W.listOf ys.toArray ys.length) :: news') →
            wpAny (model prog w) A (eval elt (compEnvC scope cl C env)) (CElt s₁.heap C s₁.heap.objs.size D oI (PySem.W.listOf ys.toArray ys.length) (fun y => if y = x then some v else none) (fun y news'' => J (i + 1) (ys ++ [y]) news'') { s₁ with heap := h, toks := tk }) E' { s₁ with heap := h, toks := tk }
          else J (i + 1) ys news') { s₁ with heap := h, toks := tk }) E' { s₁ with heap := h, toks := tk })
    (done : ∀ D h tk ys news, J n ys news → (∀ b o, s₁.heap.get? b = some o → h.get? b = some o) → (∀ p ∈ (D, PySem.W.listOf ys.toArray ys.length) :: news, h.get? p.1 = some p.2 ∧ s₁.heap.get? p.1 = none) → (∀ p ∈ news, p.1 ≠ D) → Q (.ref D) { s₁ with heap := h, toks := tk }) :
    wpAny (model prog w) A (newList []) (fun acc s₃ => wpAny (model prog w) A (newFunctionEnv scope env.globals cl [] env.qual none .none (some env)) (fun cenv s₄ =>
      codeAny (model prog w) A (.compStart (.ListComp elt [⟨.Name x px, iter, ifs, 0⟩] scope pos) 0 (.ref s₁.heap.objs.size) acc { cenv with scope := relabel scope env }) (compPost (model prog w) A E none Q acc cenv.locals) s₄) E s₃) E { s₁ with heap := s₁.heap.push oI₀ } := by
  refine wpAny_newObj_type (wpAny_newFunctionEnv hcell (by intro y hy; simp at hy) (fun h₁ hns₁ hsb₁ => ?_) hkind)
  dsimp only at hns₁ hsb₁ ⊢
  generalize hI : s₁.heap.objs.size = I at *
  generalize hH1 : s₁.heap.push oI₀ = H1 at hns₁ hsb₁ hst ⊢
  have s1 : H1.objs.size = I + 1 := by rw [← hH1, Heap.size_push, hI]
  generalize hD : H1.objs.size = D at *
  generalize hH2 : H1.push { cls := .type "list", dict := none, data := .seq ([] : List Value).toArray } = H2 at hns₁ hsb₁ ⊢
  have s2 : H2.objs.size = D + 1 := by rw [← hH2, Heap.size_push, hD]
  generalize hC : H2.objs.size = C at *
  have hDI : D ≠ I := by omega
  have hCI : C ≠ I := by omega
  have hCD : C ≠ D := by omega
  have old₁ : ∀ b o, H1.get? b = some o → h₁.get? b = some o := fun b o e => by
    have : b < D := hD ▸ Heap.lt_size e
    exact hsb₁.extBut b o (Nat.ne_of_lt (Nat.lt_trans this (by omega))) (Heap.get?_push_of_some _ (hH2 ▸ Heap.get?_push_of_some _ e))
  have old : ∀ b o, s₁.heap.get? b = some o → h₁.get? b = some o := fun b o e => old₁ b o (hH1 ▸ Heap.get?_push_of_some _ e)
  have fresh : ∀ a, I ≤ a → s₁.heap.get? a = none := fun a ha => by
    cases e : s₁.heap.get? a with
    | none => rfl
    | some o' => exact absurd (hI ▸ Heap.lt_size e) (Nat.not_lt.mpr ha)
  have F₁ : Fr s₁.heap C h₁ (fun _ => none) := ⟨by simpa using hns₁, old, by omega⟩
  have hst₁ : St 0 h₁ := W.frame _ _ _ hst fun b _ o e => old₁ b o e
  have hlD : h₁.get? D = some (PySem.W.listOf ([] : List Value).toArray 0) := by
    refine hsb₁.extBut _ _ (Ne.symm hCD) (Heap.get?_push_of_some _ ?_)
    rw [← hH2]; have := Heap.get?_push_size H1 (o := { cls := .type "list", dict := none, data := .seq ([] : List Value).toArray }) rfl
    rw [hD] at this; exact this
  have loop : ∀ s₃ : Shared, s₃ = { s₁ with heap := h₁, toks := s₁.toks + ([] : List (Str × Value)).length } →
      codeAny (model prog w) A (.compLoop (.ListComp elt [⟨.Name x px, iter, ifs, 0⟩] scope pos) 0 (.ref I) (.ref D) (compEnvC scope cl C env)) (compPost (model prog w) A E none Q (.ref D) C) s₃ := by
    rintro s₃ rfl
    refine codeAny_compLoop_tests
      (fun k s' => Ex6 fun h' tk i ys m' news => A10 (s' = { s₁ with heap := h', toks := tk }) (i ≤ n) (k = n + 1 - i) (ys.length ≤ i) (St i h') ((m' = (fun _ => none) ∨ ∃ v, m' = fun y => if y = x then some v else none)) (Fr s₁.heap C h' m') (News s₁.heap C h' ((D, PySem.W.listOf ys.toArray ys.length) :: news)) ((∀ p ∈ news, p.1 ≠ I ∧ p.1 ≠ D)) (J i ys news)) ?_ (n + 1)
      ⟨h₁, _, 0, [], _, [], rfl, Nat.zero_le _, rfl, Nat.le_refl _, hst₁, .inl rfl, F₁, (fun p hp => by obtain rfl := List.mem_singleton.mp hp; exact ⟨hlD, Ne.symm hCD, fresh _ (by omega)⟩), (fun _ hp => nomatch hp), h0⟩
    rintro k s' ⟨h', tk, i, ys, m', news, rfl, hi, rfl, hyl, hst', hm', F', N', hap, hJ⟩
    have keepF : ∀ h₂ : Heap, (∀ b o, b ∉ [I] → h'.get? b = some o → h₂.get? b = some o) → Fr s₁.heap C h₂ m' ∧ News s₁.heap C h₂ ((D, PySem.W.listOf ys.toArray ys.length) :: news) := fun h₂ hk =>
      ⟨⟨F'.ns.at' fun o e => hk _ o (fun hm => hCI (List.mem_singleton.mp hm)) e, fun b o e => hk b o (fun hm => by rw [List.mem_singleton.mp hm, fresh I (Nat.le_refl _)] at e; cases e) (F'.keep b o e), F'.above⟩,
        fun p hp => ⟨hk _ _ (fun hm => by
          rcases List.mem_cons.mp hp with rfl | hp
          · exact hDI (List.mem_singleton.mp hm)
          · exact (hap p hp).1 (List.mem_singleton.mp hm)) (N' p hp).1, (N' p hp).2⟩⟩
    by_cases hlt : i < n
    · refine W.item i _ _ _ hlt hst' fun v h₂ tk₂ hP hst₂ hk₂ => ?_
      obtain ⟨F₂, N₂⟩ := keepF h₂ hk₂
      refine wpAny_assign_Name (wpAny_storeName_local (lookup_relabel_local hx) F₂.ns (fun h₃ hn₃ hs₃ => ?_) (by simp [compEnvC, relabel, hkind]))
      have F₃' := F₂.set hn₃ hs₃
      have F₃ : Fr s₁.heap C h₃ (fun y => if y = x then some v else none) := by
        rcases hm' with rfl | ⟨v', rfl⟩
        · exact F₃'
        · rw [only_if] at F₃'; exact F₃'
      have hst₃ : St (i + 1) h₃ := W.frame _ _ _ hst₂ fun b hb o e => hs₃.extBut b o (fun q => by
        have q' : b = C := q
        rcases hfp b hb with h1 | ⟨o', e'⟩
        · exact hCI (q'.symm.trans h1)
        · exact absurd (q' ▸ hI ▸ Heap.lt_size e' : C < I) (by omega)) e
      obtain ⟨oI, hoI⟩ := hIo _ _ hst₃
      have N₃ : News s₁.heap C h₃ ((I, oI) :: (D, PySem.W.listOf ys.toArray ys.length) :: news) := fun p hp => by
        rcases List.mem_cons.mp hp with rfl | hp
        · exact ⟨hoI, Ne.symm hCI, fresh _ (Nat.le_refl _)⟩
        · exact (N₂.set hs₃) p hp
      have stIn : ∀ h₄, Fr s₁.heap C h₄ (fun y => if y = x then some v else none) → h₄.get? I = some oI → St (i + 1) h₄ := fun h₄ F₄ e₄ => W.frame _ _ _ hst₃ fun b hb o e => by
        rcases hfp b hb with rfl | ⟨o', e'⟩
        · rw [hoI] at e; cases e; exact e₄
        · have : o' = o := by have := F₃.keep b o' e'; rw [e] at this; exact (Option.some.inj this).symm
          exact this ▸ F₄.keep b o' e'
      refine wpAny_mono (test i v ys news C D oI h₃ _ _ hlt hP hJ F₃ N₃ hap hDI) (fun b s₄ h₄ => ?_) fun _ _ e => e
      obtain ⟨h₄, tk₄, news₄, rfl, F₄, N₄, ha₄, hJ₄⟩ := h₄
      cases b with
      | false =>
        simp only [Bool.false_eq_true, if_false] at hJ₄ ⊢
        exact ⟨n + 1 - (i + 1), by omega, h₄, tk₄, i + 1, ys, _, news₄, rfl, hlt, rfl, by omega, stIn h₄ F₄ (N₄ _ (List.mem_cons_self ..)).1, .inr ⟨v, rfl⟩, F₄, fun p hp => N₄ p (List.mem_cons_of_mem _ hp), ha₄, hJ₄⟩
      | true =>
        simp only [if_true] at hJ₄ ⊢
        refine wpAny_mono (hJ₄ oI h₄ tk₄ _ F₄ N₄) (fun y s₅ h₅ => ?_) fun _ _ e => e
        obtain ⟨h₅, tk₅, news₅, rfl, F₅, N₅, ha₅, hJ₅⟩ := h₅
        have zD := (N₅ (D, PySem.W.listOf ys.toArray ys.length) (List.mem_cons_of_mem _ List.mem_cons_self)).1
        refine append_at (hsz := by show ys.toArray.size ≤ sizeLine; rw [List.size_toArray]; omega) zD fun h₆ hs₆ hD₆ => ?_
        have zI := (N₅ (I, oI) List.mem_cons_self).1
        have F₆ : Fr s₁.heap C h₆ (fun y => if y = x then some v else none) := F₅.change hs₆ (Ne.symm hCD) (fresh _ (by omega))
        refine ⟨n + 1 - (i + 1), by omega, h₆, tk₅, i + 1, ys ++ [y], _, news₅, rfl, hlt, rfl, by rw [List.length_append, List.length_singleton]; omega, stIn h₆ F₆ (hs₆.extBut _ _ (Ne.symm hDI) zI), .inr ⟨v, rfl⟩, F₆, fun p hp => ?_, ha₅, hJ₅⟩
        rcases List.mem_cons.mp hp with rfl | hp
        · refine ⟨hD₆.trans ?_, Ne.symm hCD, fresh _ (by omega)⟩
          rw [List.length_append, List.length_singleton, List.push_toArray]
        · have z := N₅ p (List.mem_cons_of_mem _ (List.mem_cons_of_mem _ hp))
          exact ⟨hs₆.extBut _ _ (ha₅ p hp).2 z.1, z.2⟩
    · obtain rfl : i = n := Nat.le_antisymm hi (Nat.not_lt.mp hlt)
      refine W.done _ _ _ hst' fun h₂ tk₂ hk₂ => ?_
      obtain ⟨F₂, N₂⟩ := keepF h₂ hk₂
      refine ⟨m', F₂.ns, fun h₃ hs₃ => done D h₃ tk₂ ys news hJ (fun b o e => hs₃.extBut _ _ (by rintro rfl; rw [fresh _ (by omega)] at e; cases e) (F₂.keep b o e)) (fun p hp => ?_) (fun p hp => (hap p hp).2)⟩
      exact ⟨hs₃.extBut _ _ (N₂ p hp).2.1 (N₂ p hp).1, (N₂ p hp).2.2⟩
  exact codeAny_compStart_list (loop _ rfl) (W.self 0 _ _ _ hst₁ (loop _ rfl))

noncomputable def CompAt (prog : Program) (w : World) (A : Around) (env : Env) (elt iter : Expr) (target : Expr) (ifs : List Expr) (scope : Scope) (cl : List (Str × Addr)) (pos : Pos) (Q : Value → Shared → Prop) (E : Value → Shared → Prop) (xv : Value) (s₁ : Shared) : Prop :=
  wpAny (model prog w) A (pyIter xv) (fun it s₂ => wpAny (model prog w) A (newList []) (fun acc s₃ => wpAny (model prog w) A (newFunctionEnv scope env.globals cl [] env.qual none .none (some env)) (fun cenv s₄ =>
      codeAny (model prog w) A (.compStart (.ListComp elt [⟨target, iter, ifs, 0⟩] scope pos) 0 it acc { cenv with scope := relabel scope env }) (compPost (model prog w) A E none Q acc cenv.locals) s₄) E s₃) E s₂) E s₁

theorem Comp_ {env : Env} {elt iter target : Expr} {ifs : List Expr} {scope : Scope} {cl : List (Str × Addr)} {pos : Pos} {Q : Value → Shared → Prop} {E : Value → Shared → Prop} {s : Shared}
    (hclos : closureFor scope env = pure cl)
    (h : wpAny (model prog w) A (eval iter env) (CompAt prog w A env elt iter target ifs scope cl pos Q E) E s)
    (hkind : scope.kind = .function := by rfl)
    (hnames : ∀ y ∈ scope.names, y.2 = .local → scope.names.lookup y.1 = some .local := by decide)
    (hs : ∀ x, foldedSetIterable iter env x = pure x := by intro _; rfl) :
    wpAny (model prog w) A (eval (.ListComp elt [⟨target, iter, ifs, 0⟩] scope pos) env) Q E s := by
  rw [eval_ListComp]
  exact wpAny_comprehension_free (use := none) rfl hs hclos hkind hnames h

theorem comp_list {env : Env} {elt iter : Expr} {x : Str} {px : Pos} {ifs : List Expr} {scope : Scope} {cl : List (Str × Addr)} {pos : Pos} {Q : Value → Shared → Prop} {E : Value → Shared → Prop}
    {s₁ : Shared} {l : Addr} {its : Array Value} (J : Nat → List Value → List (Addr × Obj) → Prop)
    (hh : A.handled = none) (hl : s₁.heap.IsList l its) (hsz : its.size ≤ sizeLine) (h0 : J 0 [] [])
    (test : ∀ i v ys news I C D oI h tk E', its[i]? = some v → J i ys news → Fr s₁.heap C h (fun y => if y = x then some v else none) → News s₁.heap C h ((I, oI) :: (D, PySem.W.listOf ys.toArray ys.length) :: news) → (∀ p ∈ news, p.1 ≠ I ∧ p.1 ≠ D) → D ≠ I →
      wpAny (model prog w) A (tests ifs (compEnvC scope cl C env)) (CTest s₁.heap C I D oI (PySem.W.listOf ys.toArray ys.length) (fun y => if y = x then some v else none)
        (fun b news' => if b = true then ∀ oI h tk E', Fr s₁.heap C h (fun y => if y = x then some v else none) → News s₁.heap C h ((I, oI) :: (D, PySem.W.listOf ys.toArray ys.length) :: news') →
            wpAny (model prog w) A (eval elt (compEnvC scope cl C env)) (CElt s₁.heap C I D oI (PySem.W.listOf ys.toArray ys.length) (fun y => if y = x then some v else none) (fun y news'' => J (i + 1) (ys ++ [y]) news'') { s₁ with heap := h, toks := tk }) E' { s₁ with heap := h, toks := tk }
          else J (i + 1) ys news') { s₁ with heap := h, toks := tk }) E' { s₁ with heap := h, toks := tk })
    (done : ∀ D h tk ys news, J its.size ys news → (∀ b o, s₁.heap.get? b = some o → h.get? b = some o) → (∀ p ∈ (D, PySem.W.listOf ys.toArray ys.length) :: news, h.get? p.1 = some p.2 ∧ s₁.heap.get? p.1 = none) → (∀ p ∈ news, p.1 ≠ D) → Q (.ref D) { s₁ with heap := h, toks := tk })
    (hkind : scope.kind = .function := by rfl) (hx : scope.names.lookup x = some .local := by rfl) (hcell : ∀ y ∈ scope.names, y.2 ≠ .cell := by decide) :
    CompAt prog w A env elt iter (.Name x px) ifs scope cl pos Q E (.ref l) s₁ := by
  unfold CompAt
  obtain ⟨ol, hol, _⟩ := id hl
  have hlt := Heap.lt_size hol
  refine wpAny_pyIter_list hl ?_
  refine comp_core J hcell hkind hx (Walks.list hh s₁.heap.objs.size l (Nat.ne_of_lt hlt) its) hsz ?_ rfl (fun i h st => by obtain ⟨o, e, _⟩ := st.1; exact ⟨o, e⟩)
    ⟨⟨_, Heap.get?_push_size _ rfl, rfl, rfl⟩, hl.push _⟩ h0 (fun i v ys news C D oI h tk E' hi hP hJ F N ha hd => test i v ys news _ C D oI h tk E' hP hJ F N ha hd) done
  intro b hb
  rcases List.mem_cons.mp hb with rfl | hb
  · exact .inl rfl
  · rw [List.mem_singleton.mp hb]; exact .inr ⟨_, hol⟩

theorem comp_tup {env : Env} {elt iter : Expr} {x : Str} {px : Pos} {ifs : List Expr} {scope : Scope} {cl : List (Str × Addr)} {pos : Pos} {Q : Value → Shared → Prop} {E : Value → Shared → Prop}
    {s₁ : Shared} {l : Addr} {its : Array Value} (J : Nat → List Value → List (Addr × Obj) → Prop)
    (hh : A.handled = none) (hl : s₁.heap.IsTuple l its) (hsz : its.size ≤ sizeLine) (h0 : J 0 [] [])
    (test : ∀ i v ys news I C D oI h tk E', its[i]? = some v → J i ys news → Fr s₁.heap C h (fun y => if y = x then some v else none) → News s₁.heap C h ((I, oI) :: (D, PySem.W.listOf ys.toArray ys.length) :: news) → (∀ p ∈ news, p.1 ≠ I ∧ p.1 ≠ D) → D ≠ I →
      wpAny (model prog w) A (tests ifs (compEnvC scope cl C env)) (CTest s₁.heap C I D oI (PySem.W.listOf ys.toArray ys.length) (fun y => if y = x then some v else none)
        (fun b news' => if b = true then ∀ oI h tk E', Fr s₁.heap C h (fun y => if y = x then some v else none) → News s₁.heap C h ((I, oI) :: (D, PySem.W.listOf ys.toArray ys.length) :: news') →
            wpAny (model prog w) A (eval elt (compEnvC scope cl C env)) (CElt s₁.heap C I D oI (PySem.W.listOf ys.toArray ys.length) (fun y => if y = x then some v else none) (fun y news'' => J (i + 1) (ys ++ [y]) news'') { s₁ with heap := h, toks := tk }) E' { s₁ with heap := h, toks := tk }
          else J (i + 1) ys news') { s₁ with heap := h, toks := tk }) E' { s₁ with heap := h, toks := tk })
    (done : ∀ D h tk ys news, J its.size ys news → (∀ b o, s₁.heap.get? b = some o → h.get? b = some o) → (∀ p ∈ (D, PySem.W.listOf ys.toArray ys.length) :: news, h.get? p.1 = some p.2 ∧ s₁.heap.get? p.1 = none) → (∀ p ∈ news, p.1 ≠ D) → Q (.ref D) { s₁ with heap := h, toks := tk })
    (hkind : scope.kind = .function := by rfl) (hx : scope.names.lookup x = some .local := by rfl) (hcell : ∀ y ∈ scope.names, y.2 ≠ .cell := by decide) :
    CompAt prog w A env elt iter (.Name x px) ifs scope cl pos Q E (.ref l) s₁ := by
  unfold CompAt
  obtain ⟨ol, hol, _⟩ := id hl
  have hlt := Heap.lt_size hol
  refine wpAny_pyIter_tuple hl ?_
  refine comp_core J hcell hkind hx (Walks.tuple hh s₁.heap.objs.size l (Nat.ne_of_lt hlt) its) hsz ?_ rfl (fun i h st => by obtain ⟨o, e, _⟩ := st.1; exact ⟨o, e⟩)
    ⟨⟨_, Heap.get?_push_size _ rfl, rfl, rfl⟩, hl.push _⟩ h0 (fun i v ys news C D oI h tk E' hi hP hJ F N ha hd => test i v ys news _ C D oI h tk E' hP hJ F N ha hd) done
  intro b hb
  rcases List.mem_cons.mp hb with rfl | hb
  · exact .inl rfl
  · rw [List.mem_singleton.mp hb]; exact .inr ⟨_, hol⟩

theorem comp_range {env : Env} {elt iter : Expr} {x : Str} {px : Pos} {ifs : List Expr} {scope : Scope} {cl : List (Str × Addr)} {pos : Pos} {Q : Value → Shared → Prop} {E : Value → Shared → Prop}
    {s₁ : Shared} {r : Addr} {a b : Int} {t u v : Tok} {n : Nat} (J : Nat → List Value → List (Addr × Obj) → Prop)
    (hh : A.handled = none) (hr : IsRange s₁.heap r a b 1 t u v) (hsm : Builtin.Range.small a b 1 = true) (hn : Builtin.Range.rangeSize a b 1 = ((n : Nat) : Int)) (hsz : n ≤ sizeLine) (h0 : J 0 [] [])
    (test : ∀ i (tv : Tok) ys news I C D oI h tk E', i < n → J i ys news → Fr s₁.heap C h (fun y => if y = x then some (.int (a + (i : Int)) tv) else none) → News s₁.heap C h ((I, oI) :: (D, PySem.W.listOf ys.toArray ys.length) :: news) → (∀ p ∈ news, p.1 ≠ I ∧ p.1 ≠ D) → D ≠ I →
      wpAny (model prog w) A (tests ifs (compEnvC scope cl C env)) (CTest s₁.heap C I D oI (PySem.W.listOf ys.toArray ys.length) (fun y => if y = x then some (.int (a + (i : Int)) tv) else none)
        (fun b news' => if b = true then ∀ oI h tk E', Fr s₁.heap C h (fun y => if y = x then some (.int (a + (i : Int)) tv) else none) → News s₁.heap C h ((I, oI) :: (D, PySem.W.listOf ys.toArray ys.length) :: news') →
            wpAny (model prog w) A (eval elt (compEnvC scope cl C env)) (CElt s₁.heap C I D oI (PySem.W.listOf ys.toArray ys.length) (fun y => if y = x then some (.int (a + (i : Int)) tv) else none) (fun y news'' => J (i + 1) (ys ++ [y]) news'') { s₁ with heap := h, toks := tk }) E' { s₁ with heap := h, toks := tk }
          else J (i + 1) ys news') { s₁ with heap := h, toks := tk }) E' { s₁ with heap := h, toks := tk })
    (done : ∀ D h tk ys news, J n ys news → (∀ b o, s₁.heap.get? b = some o → h.get? b = some o) → (∀ p ∈ (D, PySem.W.listOf ys.toArray ys.length) :: news, h.get? p.1 = some p.2 ∧ s₁.heap.get? p.1 = none) → (∀ p ∈ news, p.1 ≠ D) → Q (.ref D) { s₁ with heap := h, toks := tk })
    (hkind : scope.kind = .function := by rfl) (hx : scope.names.lookup x = some .local := by rfl) (hcell : ∀ y ∈ scope.names, y.2 ≠ .cell := by decide) :
    CompAt prog w A env elt iter (.Name x px) ifs scope cl pos Q E (.ref r) s₁ := by
  unfold CompAt
  refine wpAny_pyIter_range hr hsm ?_
  refine comp_core J hcell hkind hx (LCg.range_walks hh a n) hsz ?_ rfl (fun i h st => ⟨_, st⟩)
    (by show IsRangeIter _ _ _ _ _; rw [hn]; simpa using Heap.get?_push_size _ rfl) h0 (fun i v ys news C D oI h tk E' hi hP hJ F N ha hd => by obtain ⟨tv, rfl⟩ := hP; exact test i tv ys news _ C D oI h tk E' hi hJ F N ha hd) done
  intro b hb
  exact .inl (List.mem_singleton.mp hb)
end

end Mine
/-! B3 -/
namespace Mine
theorem relabel_lookup {env : Env} {x : Str} {k : NameKind} : ∀ {names : List (Str × NameKind)}, names.lookup x = some k →
    (names.map fun (n, k) => if (k == NameKind.free && env.scope.kind == .function && env.kindOf n == some .cell) then (n, NameKind.cell) else (n, k)).lookup x =
      some (if (k == NameKind.free && env.scope.kind == .function && env.kindOf x == some .cell) then NameKind.cell else k)
  | [], h => by simp at h
  | (n, k') :: r, h => by
    have ih := @relabel_lookup env x k r
    show List.lookup x ((if (k' == NameKind.free && env.scope.kind == .function && env.kindOf n == some .cell) = true then (n, NameKind.cell) else (n, k')) :: _) = _
    cases hx : x == n with
    | true =>
      simp only [List.lookup_cons, hx] at h
      cases h
      have e : x = n := by simpa using hx
      subst e
      by_cases hc : (k == NameKind.free && env.scope.kind == .function && env.kindOf x == some .cell) = true
      · rw [if_pos hc, if_pos hc]; simp [List.lookup_cons]
      · rw [if_neg hc, if_neg hc]; simp [List.lookup_cons]
    | false =>
      simp only [List.lookup_cons, hx] at h
      by_cases hc : (k' == NameKind.free && env.scope.kind == .function && env.kindOf n == some .cell) = true
      · rw [if_pos hc]; simp only [List.lookup_cons, hx]; exact ih h
      · rw [if_neg hc]; simp only [List.lookup_cons, hx]; exact ih h
theorem kindOfC {scope : Scope} {cl : List (Str × Addr)} {C : Addr} {env : Env} {x : Str} {k : NameKind} (h : scope.names.lookup x = some k) :
    (compEnvC scope cl C env).kindOf x = some (if (k == NameKind.free && env.scope.kind == .function && env.kindOf x == some .cell) then NameKind.cell else k) := relabel_lookup h
section
variable {M : Model} {A : Around} {E : Value → Shared → Prop} {s : Shared} {K : Frag} {g : Heap} {C : Addr} {m mg mb : Str → Option Value} {scope : Scope} {cl : List (Str × Addr)} {env : Env} {p : Program} {loose : List Str}
  {x : Str} {pos : Pos} {v : Value} {Q : Value → Shared → Prop} {c : Addr} {o : Obj}
theorem cn_local (F : Fr g C s.heap m) (hl : scope.names.lookup x = some .local) (hv : m x = some v) (h : Q v s)
    (hk : scope.kind = .function) (hd : (x == ("__debug__" : Str)) = false) :
    wpAny M A (eval (.Name x pos) (compEnvC scope cl C env)) Q E s := wpAny_Name (wpAny_loadName_local (by exact hk) (kindOfC hl) F.ns hv h) hd
theorem cn_cell (F : Fr g C s.heap m) (hl : scope.names.lookup x = some .free) (hek : env.scope.kind = .function) (he : env.kindOf x = some .cell) (hc : cl.lookup x = some c) (ho : g.get? c = some o) (hd : o.data = .cell (some v)) (h : Q v s)
    (hk : scope.kind = .function) (hb : (x == ("__debug__" : Str)) = false) :
    wpAny M A (eval (.Name x pos) (compEnvC scope cl C env)) Q E s := wpAny_Name (wpAny_loadName_cell (by exact hk) (by rw [kindOfC hl, hek, he]; rfl) hc ⟨o, F.keep _ _ ho, hd⟩ h) hb
theorem cn_global (F : Fr g C s.heap m) (hl : scope.names.lookup x = some .globalImplicit) (X : K.In g) (T : TopRead p loose mg mb g) (e : nsIn K mainGlobals x = some (some v)) (h : Q v s) (hg : env.globals = mainGlobals)
    (hk : scope.kind = .function) (hd : (x == ("__debug__" : Str)) = false) :
    wpAny M A (eval (.Name x pos) (compEnvC scope cl C env)) Q E s :=
  Name_function_global (by exact hk) (kindOfC hl) (loadGlobal_global (env := compEnvC scope cl C env) (show s.heap.Ns env.globals mg from hg ▸ (T.keeps F.keep).g) (mg_of X T.g e) h) hd
theorem cn_built (F : Fr g C s.heap m) (hl : scope.names.lookup x = some .globalImplicit) (X : K.In g) (T : TopRead p loose mg mb g) (e : nsIn K mainGlobals x = some none) (hv : bootBuiltins x = some v) (hn : x ≠ "__name__") (h : Q v s) (hg : env.globals = mainGlobals) (hb : env.builtins = builtinsNs)
    (hk : scope.kind = .function) (hd : (x == ("__debug__" : Str)) = false) :
    wpAny M A (eval (.Name x pos) (compEnvC scope cl C env)) Q E s :=
  Name_function_global (by exact hk) (kindOfC hl) (loadGlobal_builtin (env := compEnvC scope cl C env) (show s.heap.Ns env.globals mg from hg ▸ (T.keeps F.keep).g) (mg_none_of X T.g e) (show s.heap.Ns env.builtins mb from hb ▸ (T.keeps F.keep).b) ((T.builtins x hn).trans hv) h) hd
end
section
variable {h₀ h h' : Heap} {L : Addr} {m : Str → Option Value} {news more : List (Addr × Obj)}
/-- what a pure step adds: the frame and the ledger behind it -/
theorem added (F : Fr h₀ L h m) (N : News h₀ L h news) (k : ∀ b o, h.get? b = some o → h'.get? b = some o) (hN : ∀ p ∈ more, h'.get? p.1 = some p.2 ∧ h.get? p.1 = none) :
    Fr h₀ L h' m ∧ News h₀ L h' (more ++ news) ∧ (∀ p ∈ more, ∀ q ∈ news, q.1 ≠ p.1) := by
  refine ⟨F.keeps k, fun p hp => ?_, fun p hp q hq e => ?_⟩
  · rcases List.mem_append.mp hp with hp | hp
    · have z := hN p hp
      refine ⟨z.1, fun e => ?_, ?_⟩
      · obtain ⟨o, _, _, eo, _⟩ := F.ns
        rw [← e, z.2] at eo; cases eo
      · cases q : h₀.get? p.1 with
        | none => rfl
        | some o => have := F.keep _ _ q; rw [z.2] at this; cases this
    · exact (N.grown k) p hp
  · have z := (N q hq).1
    rw [e, (hN p hp).2] at z; cases z
end
theorem ints_snoc {vs : List Value} {ns : List Int} {n : Int} {t : Tok} (h : IntsAre vs ns) : IntsAre (vs ++ [.int n t]) (ns ++ [n]) := h.append (.cons _ _ .nil)
theorem rsize (n : Nat) : Builtin.Range.rangeSize 0 (n : Int) 1 = ((n : Nat) : Int) := by
  unfold Builtin.Range.rangeSize
  rw [if_pos (by decide)]
  by_cases h : (0 : Int) < n
  · rw [if_pos h, Int.ediv_one]; omega
  · rw [if_neg h]; omega
theorem rsmall (n : Nat) (h : n ≤ 1000000) : Builtin.Range.small 0 (n : Int) 1 = true := by
  unfold Builtin.Range.small
  rw [rsize]
  have e : (2 : Int) ^ 63 = 9223372036854775808 := by decide
  unfold Builtin.Range.rangeFitsLong
  rw [if_pos (by decide), e]
  simp only [Bool.and_eq_true, Bool.or_eq_true, decide_eq_true_eq, beq_iff_eq]
  omega

end Mine
/-! B4 -/
namespace Mine
section
variable {prog : Program} {w : World} {A : Around} {E : Value → Shared → Prop} {s : Shared} {h₀ : Heap} {L D : Addr} {m : Str → Option Value} {news news' : List (Addr × Obj)}
theorem append_L {vs : List Value} {n : Nat} {x : Value} {Q : Value → Shared → Prop} (F : Fr h₀ L s.heap m) (N : News h₀ L s.heap news) (U : Upd D (W.listOf vs.toArray n) (W.listOf (vs ++ [x]).toArray (n + 1)) news news')
    (h : ∀ h', Fr h₀ L h' m → News h₀ L h' news' → Q .none { s with heap := h' }) (hsz : vs.length ≤ sizeLine) : wpAny (model prog w) A (call (.builtin "list.append") [.ref D, x]) Q E s := by
  have e : (vs ++ [x]).toArray = vs.toArray.push x := by simp
  rw [e] at U
  exact append_K (hsz := by rw [List.size_toArray]; exact hsz) F N U h
theorem strs_snoc {vs : List Value} {xs : List Str} {y : Str} {t : Tok} (h : StrsAre vs xs) : StrsAre (vs ++ [.str y t]) (xs ++ [y]) := kct_snoc h
end
section
variable {prog : Program} {w : World} {A : Around} {E : Value → Shared → Prop} {s : Shared} {t u : Tok}
theorem add_B {x y : Str} {a b : Nat} {Q : Value → Shared → Prop} (hx : x.length ≤ a) (hy : y.length ≤ b) (hs : Nat.ble (a + b) 16777216 = true) (h : ∀ t' tk, Q (.str (x ++ y) t') { s with toks := tk }) : wpAny (model prog w) A (binaryOp .Add (.str x t) (.str y u)) Q E s :=
  PyProof.Rows.add_str h (by rw [sizeLine_eq]; exact Nat.le_trans (Nat.add_le_add hx hy) (Nat.le_of_ble_eq_true hs))
theorem iadd_B {x y : Str} {a b : Nat} {Q : Value → Shared → Prop} (hx : x.length ≤ a) (hy : y.length ≤ b) (hs : Nat.ble (a + b) 16777216 = true) (h : ∀ t' tk, Q (.str (x ++ y) t') { s with toks := tk }) : wpAny (model prog w) A (inplaceOp .Add (.str x t) (.str y u)) Q E s :=
  PyProof.Rows.iadd_str h (by rw [sizeLine_eq]; exact Nat.le_trans (Nat.add_le_add hx hy) (Nat.le_of_ble_eq_true hs))
theorem app_B {x y : Str} {a b : Nat} (hx : x.length ≤ a) (hy : y.length ≤ b) : (x ++ y).length ≤ a + b := by rw [PySem.Str.length_append]; exact Nat.add_le_add hx hy
theorem one_B {c : Nat} : (⟨#[c]⟩ : Str).length ≤ 1 := Nat.le_refl 1
theorem bs_len : (Str.ofString "\\").length = 1 := by decide +kernel
theorem qt_len : (Str.ofString "\"").length = 1 := by decide +kernel
theorem in_char {x : Str} {c : Nat} {Q : Value → Shared → Prop} (h : Q (.bool (decide (c ∈ x.cps.toList))) s) : wpAny (model prog w) A (compareOp .In (.str ⟨#[c]⟩ u) (.str x t)) Q E s :=
  PyProof.Rows.in_str (by rw [PySem.StrLaws.found_one]; exact h)
theorem tail_char {value slice : PySem.Expr} {x : Str} {i : Nat} {c : Nat} {Q : Value → Shared → Prop} (hc : x.cps[i]? = some c) (hn : x.length ≤ 1000000) (h : Q (.str ⟨#[c]⟩ s.toks) { s with toks := s.toks + 1 })
    (hs : subscripted slice false (.str x t) (.int (i : Int) u) = operate [.str x t, .int (i : Int) u] (getItem (.str x t) (.int (i : Int) u)) := by with_unfolding_all rfl)
    (ht : ∀ r, letTemporaryGo value (.str x t) r = pure () := by intro _; with_unfolding_all rfl) :
    wpAny (model prog w) A (subscriptTail value slice (.str x t) (.int (i : Int) u)) Q E s := by
  have hl : i < x.length := by
    have := hc; rw [Array.getElem?_eq_some_iff] at this; exact this.1
  refine KXi.item rfl (by omega) (by omega) (by omega) (fun _ => ?_) hs ht
  have e : Txt.item x (i : Int) = ⟨#[c]⟩ := by
    unfold Txt.item Txt.charAt
    have e : seqIndex? (i : Int) x.length = some i := by
      unfold seqIndex?
      have e1 : (if (i : Int) < 0 then (i : Int) + x.length else (i : Int)) = i := if_neg (by omega)
      rw [e1]
      have e2 : (decide (0 ≤ (i : Int)) && decide ((i : Int) < (x.length : Int))) = true := by
        rw [Bool.and_eq_true, decide_eq_true_eq, decide_eq_true_eq]; omega
      rw [if_pos e2, Int.toNat_natCast]
    rw [e]
    show (⟨#[(x.cps[i]?).getD 0]⟩ : Str) = _
    rw [hc]; rfl
  rw [e]; exact h
end
section
variable {prog : Program} {w : World} {A : Around} {h₀ : Heap}
theorem for_str {env : Env} {x : Str} {px : Pos} {body : List Stmt} {E : Value → Shared → Prop} {s : Shared} {y : Str} {t : Tok} {m₀ : Str → Option Value} {news₀ : List (Addr × Obj)}
    {Q : Flow → Shared → Prop}
    (J : Nat → (Str → Option Value) → List (Addr × Obj) → Prop)
    (hh : A.handled = none) (F : Fr h₀ env.locals s.heap m₀) (N : News h₀ env.locals s.heap news₀)
    (h0 : J 0 m₀ news₀)
    (turn : ∀ i c u m news I oI h tk E', y.cps[i]? = some c → J i m news → Fr h₀ env.locals h (fun z => if z = x then some (.str ⟨#[c]⟩ u) else m z) → News h₀ env.locals h ((I, oI) :: news) → (∀ p ∈ news, p.1 ≠ I) → s.heap.get? I = none →
      wpAny (model prog w) A (execs body env) (Turn h₀ env.locals I oI (J (i + 1)) Q { s with heap := h, toks := tk }) E' { s with heap := h, toks := tk })
    (done : ∀ m news h tk, J y.cps.size m news → Fr h₀ env.locals h m → News h₀ env.locals h news → Q .next { s with heap := h, toks := tk })
    (hx : env.kindOf x = some .local := by rfl) (hp : (env.scope.kind == .class || (env.scope.kind == .module && env.locals != env.globals)) = false := by rfl) :
    ForAt prog w A env (.Name x px) body [] Q E (.str y t) s := by
  unfold ForAt
  have fresh : s.heap.get? s.heap.objs.size = none := by
    cases e : s.heap.get? s.heap.objs.size with
    | none => rfl
    | some o => exact absurd (Heap.lt_size e) (Nat.lt_irrefl _)
  have core : ∀ (o : Obj) (St : Nat → Heap → Prop), (∀ A' : Around, A'.handled = none → Walks prog w A' s.heap.objs.size [s.heap.objs.size] [s.heap.objs.size] y.cps.size (SignAt y) St) → (∀ i h, St i h → ∃ o, h.get? s.heap.objs.size = some o) → St 0 (s.heap.push o) →
      codeAny (model prog w) A (.forLoop (.Name x px) (.ref s.heap.objs.size) body [] env) (ForR (model prog w) A env Q E) { s with heap := s.heap.push o } := by
    intro o St W ho st
    refine for_core (src := []) J hx hp (W A hh) (Ne.symm (Nat.ne_of_lt F.ns.lt)) (next_is_new F) ?_ ?_ (fun _ _ _ _ _ hp => nomatch hp) ho st (F.push _) (N.grown fun _ _ e => Heap.get?_push_of_some _ e) (fun p hp => Nat.ne_of_lt (Heap.lt_size (N p hp).1)) h0 (fun _ _ q => q) (fun _ q => q)
      (fun i v m news oI h tk E' hi hP hJ F' N' ha => by obtain ⟨c, u, hc, rfl⟩ := hP; exact turn i c u m news _ oI h tk E' hc hJ F' N' ha fresh) (fun m news h tk hJ F' N' => done m news h tk hJ F' N')
    · intro hm
      exact absurd F.ns.lt ((List.mem_singleton.mp hm) ▸ Nat.lt_irrefl _)
    · intro b hb
      exact .inl (List.mem_singleton.mp hb)
  cases ha : y.cps.all (· < 128)
  · exact wpAny_pyIter_wide ha (core _ _ (fun A' hA => Walks.strWide hA _ y t) (fun i h ⟨o, e, _⟩ => ⟨o, e⟩) ⟨_, Heap.get?_push_size _ rfl, rfl, rfl⟩)
  · exact wpAny_pyIter_ascii ha (core _ _ (fun A' hA => Walks.strAscii hA _ y t) (fun i h ⟨o, e, _⟩ => ⟨o, e⟩) ⟨_, Heap.get?_push_size _ rfl, rfl, rfl⟩)
end

end Mine
/-! B5 -/
namespace Mine
section
variable {prog : Program} {w : World} {A : Around} {h₀ : Heap}
theorem comp_coreU {use : Option (Value → Sem Unit)} {env : Env} {elt iter : Expr} {x : Str} {px : Pos} {ifs : List Expr} {scope : Scope} {cl : List (Str × Addr)} {pos : Pos} {Q : Value → Shared → Prop} {E : Value → Shared → Prop}
    {s₁ : Shared} {oI₀ : Obj} {fp : List Addr} {n : Nat} {P : Nat → Value → Prop} {St : Nat → Heap → Prop}
    (J : Nat → List Value → List (Addr × Obj) → Prop)
    (hcell : ∀ y ∈ scope.names, y.2 ≠ .cell) (hkind : scope.kind = .function) (hx : scope.names.lookup x = some .local)
    (W : Walks prog w A s₁.heap.objs.size fp [s₁.heap.objs.size] n P St) (hsz : n ≤ sizeLine)
    (hfp : ∀ b ∈ fp, b = s₁.heap.objs.size ∨ (∃ o, s₁.heap.get? b = some o)) (hfree : oI₀.isFreed = false)
    (hIo : ∀ i h, St i h → ∃ o, h.get? s₁.heap.objs.size = some o)
    (hst : St 0 (s₁.heap.push oI₀)) (h0 : J 0 [] [])
    (test : ∀ i v ys news C D oI h tk E', i < n → P i v → J i ys news → Fr s₁.heap C h (fun y => if y = x then some v else none) → News s₁.heap C h ((s₁.heap.objs.size, oI) :: (D, PySem.W.listOf ys.toArray ys.length) :: news) → (∀ p ∈ news, p.1 ≠ s₁.heap.objs.size ∧ p.1 ≠ D) → D ≠ s₁.heap.objs.size →
      wpAny (model prog w) A (tests ifs (compEnvC scope cl C env)) (CTest s₁.heap C s₁.heap.objs.size D oI (PySem.W.listOf ys.toArray ys.length) (fun y => if y = x then some v else none)
        (fun b news' => if b = true then ∀ oI h tk E', Fr s₁.heap C h (fun y => if y = x then some v else none) → News s₁.heap C h ((s₁.heap.objs.size, oI) :: (D, PySem.W.listOf ys.toArray ys.length) :: news') →
            wpAny (model prog w) A (eval elt (compEnvC scope cl C env)) (CElt s₁.heap C s₁.heap.objs.size D oI (PySem.W.listOf ys.toArray ys.length) (fun y => if y = x then some v else none) (fun y news'' => J (i + 1) (ys ++ [y]) news'') { s₁ with heap := h, toks := tk }) E' { s₁ with heap := h, toks := tk }
          else J (i + 1) ys news') { s₁ with heap := h, toks := tk }) E' { s₁ with heap := h, toks := tk })
    (fin : ∀ D C h tk ys news m' f, J n ys news → Fr s₁.heap C h m' → News s₁.heap C h ((D, PySem.W.listOf ys.toArray ys.length) :: news) → (∀ p ∈ news, p.1 ≠ D) → compPost (model prog w) A E use Q (.ref D) C (.ok f) { s₁ with heap := h, toks := tk }) :
    wpAny (model prog w) A (newList []) (fun acc s₃ => wpAny (model prog w) A (newFunctionEnv scope env.globals cl [] env.qual none .none (some env)) (fun cenv s₄ =>
      codeAny (model prog w) A (.compStart (.ListComp elt [⟨.Name x px, iter, ifs, 0⟩] scope pos) 0 (.ref s₁.heap.objs.size) acc { cenv with scope := relabel scope env }) (compPost (model prog w) A E use Q acc cenv.locals) s₄) E s₃) E { s₁ with heap := s₁.heap.push oI₀ } := by
  refine wpAny_newObj_type (wpAny_newFunctionEnv hcell (by intro y hy; simp at hy) (fun h₁ hns₁ hsb₁ => ?_) hkind)
  dsimp only at hns₁ hsb₁ ⊢
  generalize hI : s₁.heap.objs.size = I at *
  generalize hH1 : s₁.heap.push oI₀ = H1 at hns₁ hsb₁ hst ⊢
  have s1 : H1.objs.size = I + 1 := by rw [← hH1, Heap.size_push, hI]
  generalize hD : H1.objs.size = D at *
  generalize hH2 : H1.push { cls := .type "list", dict := none, data := .seq ([] : List Value).toArray } = H2 at hns₁ hsb₁ ⊢
  have s2 : H2.objs.size = D + 1 := by rw [← hH2, Heap.size_push, hD]
  generalize hC : H2.objs.size = C at *
  have hDI : D ≠ I := by omega
  have hCI : C ≠ I := by omega
  have hCD : C ≠ D := by omega
  have old₁ : ∀ b o, H1.get? b = some o → h₁.get? b = some o := fun b o e => by
    have : b < D := hD ▸ Heap.lt_size e
    exact hsb₁.extBut b o (Nat.ne_of_lt (Nat.lt_trans this (by omega))) (Heap.get?_push_of_some _ (hH2 ▸ Heap.get?_push_of_some _ e))
  have old : ∀ b o, s₁.heap.get? b = some o → h₁.get? b = some o := fun b o e => old₁ b o (hH1 ▸ Heap.get?_push_of_some _ e)
  have fresh : ∀ a, I ≤ a → s₁.heap.get? a = none := fun a ha => by
    cases e : s₁.heap.get? a with
    | none => rfl
    | some o' => exact absurd (hI ▸ Heap.lt_size e) (Nat.not_lt.mpr ha)
  have F₁ : Fr s₁.heap C h₁ (fun _ => none) := ⟨by simpa using hns₁, old, by omega⟩
  have hst₁ : St 0 h₁ := W.frame _ _ _ hst fun b _ o e => old₁ b o e
  have hlD : h₁.get? D = some (PySem.W.listOf ([] : List Value).toArray 0) := by
    refine hsb₁.extBut _ _ (Ne.symm hCD) (Heap.get?_push_of_some _ ?_)
    rw [← hH2]; have := Heap.get?_push_size H1 (o := { cls := .type "list", dict := none, data := .seq ([] : List Value).toArray }) rfl
    rw [hD] at this; exact this
  have loop : ∀ s₃ : Shared, s₃ = { s₁ with heap := h₁, toks := s₁.toks + ([] : List (Str × Value)).length } →
      codeAny (model prog w) A (.compLoop (.ListComp elt [⟨.Name x px, iter, ifs, 0⟩] scope pos) 0 (.ref I) (.ref D) (compEnvC scope cl C env)) (compPost (model prog w) A E use Q (.ref D) C) s₃ := by
    rintro s₃ rfl
    refine codeAny_compLoop_tests
      (fun k s' => Ex6 fun h' tk i ys m' news => A10 (s' = { s₁ with heap := h', toks := tk }) (i ≤ n) (k = n + 1 - i) (ys.length ≤ i) (St i h') ((m' = (fun _ => none) ∨ ∃ v, m' = fun y => if y = x then some v else none)) (Fr s₁.heap C h' m') (News s₁.heap C h' ((D, PySem.W.listOf ys.toArray ys.length) :: news)) ((∀ p ∈ news, p.1 ≠ I ∧ p.1 ≠ D)) (J i ys news)) ?_ (n + 1)
      ⟨h₁, _, 0, [], _, [], rfl, Nat.zero_le _, rfl, Nat.le_refl _, hst₁, .inl rfl, F₁, (fun p hp => by obtain rfl := List.mem_singleton.mp hp; exact ⟨hlD, Ne.symm hCD, fresh _ (by omega)⟩), (fun _ hp => nomatch hp), h0⟩
    rintro k s' ⟨h', tk, i, ys, m', news, rfl, hi, rfl, hyl, hst', hm', F', N', hap, hJ⟩
    have keepF : ∀ h₂ : Heap, (∀ b o, b ∉ [I] → h'.get? b = some o → h₂.get? b = some o) → Fr s₁.heap C h₂ m' ∧ News s₁.heap C h₂ ((D, PySem.W.listOf ys.toArray ys.length) :: news) := fun h₂ hk =>
      ⟨⟨F'.ns.at' fun o e => hk _ o (fun hm => hCI (List.mem_singleton.mp hm)) e, fun b o e => hk b o (fun hm => by rw [List.mem_singleton.mp hm, fresh I (Nat.le_refl _)] at e; cases e) (F'.keep b o e), F'.above⟩,
        fun p hp => ⟨hk _ _ (fun hm => by
          rcases List.mem_cons.mp hp with rfl | hp
          · exact hDI (List.mem_singleton.mp hm)
          · exact (hap p hp).1 (List.mem_singleton.mp hm)) (N' p hp).1, (N' p hp).2⟩⟩
    by_cases hlt : i < n
    · refine W.item i _ _ _ hlt hst' fun v h₂ tk₂ hP hst₂ hk₂ => ?_
      obtain ⟨F₂, N₂⟩ := keepF h₂ hk₂
      refine wpAny_assign_Name (wpAny_storeName_local (lookup_relabel_local hx) F₂.ns (fun h₃ hn₃ hs₃ => ?_) (by simp [compEnvC, relabel, hkind]))
      have F₃' := F₂.set hn₃ hs₃
      have F₃ : Fr s₁.heap C h₃ (fun y => if y = x then some v else none) := by
        rcases hm' with rfl | ⟨v', rfl⟩
        · exact F₃'
        · rw [only_if] at F₃'; exact F₃'
      have hst₃ : St (i + 1) h₃ := W.frame _ _ _ hst₂ fun b hb o e => hs₃.extBut b o (fun q => by
        have q' : b = C := q
        rcases hfp b hb with h1 | ⟨o', e'⟩
        · exact hCI (q'.symm.trans h1)
        · exact absurd (q' ▸ hI ▸ Heap.lt_size e' : C < I) (by omega)) e
      obtain ⟨oI, hoI⟩ := hIo _ _ hst₃
      have N₃ : News s₁.heap C h₃ ((I, oI) :: (D, PySem.W.listOf ys.toArray ys.length) :: news) := fun p hp => by
        rcases List.mem_cons.mp hp with rfl | hp
        · exact ⟨hoI, Ne.symm hCI, fresh _ (Nat.le_refl _)⟩
        · exact (N₂.set hs₃) p hp
      have stIn : ∀ h₄, Fr s₁.heap C h₄ (fun y => if y = x then some v else none) → h₄.get? I = some oI → St (i + 1) h₄ := fun h₄ F₄ e₄ => W.frame _ _ _ hst₃ fun b hb o e => by
        rcases hfp b hb with rfl | ⟨o', e'⟩
        · rw [hoI] at e; cases e; exact e₄
        · have : o' = o := by have := F₃.keep b o' e'; rw [e] at this; exact (Option.some.inj this).symm
          exact this ▸ F₄.keep b o' e'
      refine wpAny_mono (test i v ys news C D oI h₃ _ _ hlt hP hJ F₃ N₃ hap hDI) (fun b s₄ h₄ => ?_) fun _ _ e => e
      obtain ⟨h₄, tk₄, news₄, rfl, F₄, N₄, ha₄, hJ₄⟩ := h₄
      cases b with
      | false =>
        simp only [Bool.false_eq_true, if_false] at hJ₄ ⊢
        exact ⟨n + 1 - (i + 1), by omega, h₄, tk₄, i + 1, ys, _, news₄, rfl, hlt, rfl, by omega, stIn h₄ F₄ (N₄ _ (List.mem_cons_self ..)).1, .inr ⟨v, rfl⟩, F₄, fun p hp => N₄ p (List.mem_cons_of_mem _ hp), ha₄, hJ₄⟩
      | true =>
        simp only [if_true] at hJ₄ ⊢
        refine wpAny_mono (hJ₄ oI h₄ tk₄ _ F₄ N₄) (fun y s₅ h₅ => ?_) fun _ _ e => e
        obtain ⟨h₅, tk₅, news₅, rfl, F₅, N₅, ha₅, hJ₅⟩ := h₅
        have zD := (N₅ (D, PySem.W.listOf ys.toArray ys.length) (List.mem_cons_of_mem _ List.mem_cons_self)).1
        refine append_at (hsz := by show ys.toArray.size ≤ sizeLine; rw [List.size_toArray]; omega) zD fun h₆ hs₆ hD₆ => ?_
        have zI := (N₅ (I, oI) List.mem_cons_self).1
        have F₆ : Fr s₁.heap C h₆ (fun y => if y = x then some v else none) := F₅.change hs₆ (Ne.symm hCD) (fresh _ (by omega))
        refine ⟨n + 1 - (i + 1), by omega, h₆, tk₅, i + 1, ys ++ [y], _, news₅, rfl, hlt, rfl, by rw [List.length_append, List.length_singleton]; omega, stIn h₆ F₆ (hs₆.extBut _ _ (Ne.symm hDI) zI), .inr ⟨v, rfl⟩, F₆, fun p hp => ?_, ha₅, hJ₅⟩
        rcases List.mem_cons.mp hp with rfl | hp
        · refine ⟨hD₆.trans ?_, Ne.symm hCD, fresh _ (by omega)⟩
          rw [List.length_append, List.length_singleton, List.push_toArray]
        · have z := N₅ p (List.mem_cons_of_mem _ (List.mem_cons_of_mem _ hp))
          exact ⟨hs₆.extBut _ _ (ha₅ p hp).2 z.1, z.2⟩
    · obtain rfl : i = n := Nat.le_antisymm hi (Nat.not_lt.mp hlt)
      refine W.done _ _ _ hst' fun h₂ tk₂ hk₂ => ?_
      obtain ⟨F₂, N₂⟩ := keepF h₂ hk₂
      exact fin D C h₂ tk₂ ys news m' _ hJ F₂ N₂ (fun p hp => (hap p hp).2)
  exact codeAny_compStart_list (loop _ rfl) (W.self 0 _ _ _ hst₁ (loop _ rfl))

noncomputable def CompAtU (use : Option (Value → Sem Unit)) (prog : Program) (w : World) (A : Around) (env : Env) (elt iter : Expr) (target : Expr) (ifs : List Expr) (scope : Scope) (cl : List (Str × Addr)) (pos : Pos) (Q : Value → Shared → Prop) (E : Value → Shared → Prop) (xv : Value) (s₁ : Shared) : Prop :=
  wpAny (model prog w) A (pyIter xv) (fun it s₂ => wpAny (model prog w) A (newList []) (fun acc s₃ => wpAny (model prog w) A (newFunctionEnv scope env.globals cl [] env.qual none .none (some env)) (fun cenv s₄ =>
      codeAny (model prog w) A (.compStart (.ListComp elt [⟨target, iter, ifs, 0⟩] scope pos) 0 it acc { cenv with scope := relabel scope env }) (compPost (model prog w) A E use Q acc cenv.locals) s₄) E s₃) E s₂) E s₁

theorem AssignComp_ {env : Env} {elt iter target : Expr} {ifs : List Expr} {scope : Scope} {cl : List (Str × Addr)} {pos spos : Pos} {y : Str} {py : Pos} {Q : Flow → Shared → Prop} {E : Value → Shared → Prop} {s : Shared}
    (hclos : closureFor scope env = pure cl)
    (h : wpAny (model prog w) A (eval iter env) (CompAtU (some (assign (.Name y py) env)) prog w A env elt iter target ifs scope cl pos (fun _ s' => Q .next s') E) E s)
    (hsw : swapsWith (.ListComp elt [⟨target, iter, ifs, 0⟩] scope pos) (some (.Name y py)) spos.line env = pure true := by with_unfolding_all rfl)
    (hkind : scope.kind = .function := by rfl)
    (hnames : ∀ y ∈ scope.names, y.2 = .local → scope.names.lookup y.1 = some .local := by decide)
    (hs : ∀ x, foldedSetIterable iter env x = pure x := by intro _; rfl) :
    wpAny (model prog w) A (exec (.Assign [.Name y py] (.ListComp elt [⟨target, iter, ifs, 0⟩] scope pos) spos) env) Q E s := by
  rw [exec_Assign_Name_used _ _ _ _ hsw]
  refine wpAny_bind (wpAny_standAt (wpAny_bind ?_))
  show wpAny _ A (do let _ ← comprehension (.ListComp elt [⟨target, iter, ifs, 0⟩] scope pos) scope env _ (newList []) false (eval iter env) (some (assign (.Name y py) env))) _ _ s
  exact wpAny_bind (wpAny_mono (wpAny_comprehension_free (use := some (assign (.Name y py) env)) (Q := fun _ s' => Q .next s') rfl hs hclos hkind hnames h) (fun _ s' hq => wpAny_pure (wpAny_pure hq)) fun _ _ e => e)

theorem fin_assign {env : Env} {y : Str} {py : Pos} {Q : Shared → Prop} {E : Value → Shared → Prop} {s₁ : Shared} {m₀ : Str → Option Value} {news₀ : List (Addr × Obj)}
    (F₀ : Fr h₀ env.locals s₁.heap m₀) (N₀ : News h₀ env.locals s₁.heap news₀) (hy : env.kindOf y = some .local) (hp : (env.scope.kind == .class || (env.scope.kind == .module && env.locals != env.globals)) = false)
    {D C : Addr} {h : Heap} {tk : Nat} {ys : List Value} {news : List (Addr × Obj)} {m' : Str → Option Value} {f : Flow}
    (F : Fr s₁.heap C h m') (N : News s₁.heap C h ((D, PySem.W.listOf ys.toArray ys.length) :: news))
    (done : ∀ h tk, Fr h₀ env.locals h (fun z => if z = y then some (.ref D) else m₀ z) → News h₀ env.locals h ((D, PySem.W.listOf ys.toArray ys.length) :: (news ++ news₀)) → Q { s₁ with heap := h, toks := tk }) :
    compPost (model prog w) A E (some (assign (.Name y py) env)) (fun _ s' => Q s') (.ref D) C (.ok f) { s₁ with heap := h, toks := tk } := by
  show wpAny _ A (assign (.Name y py) env (.ref D)) _ _ _
  have hC₁ : s₁.heap.get? C = none := Heap.get?_none_of_le F.above
  have hC₀ : h₀.get? C = none := by
    cases e : h₀.get? C with
    | none => rfl
    | some o => have := F₀.keep _ _ e; rw [hC₁] at this; cases this
  have hLs : ∃ o, s₁.heap.get? env.locals = some o := by obtain ⟨o, _, _, e, _⟩ := F₀.ns; exact ⟨o, e⟩
  have hCL : C ≠ env.locals := by rintro rfl; obtain ⟨o, e⟩ := hLs; rw [hC₁] at e; cases e
  have F₁ := F₀.keeps F.keep
  refine wpAny_assign_Name (wpAny_storeName_local hy F₁.ns (fun h₂ hn₂ hs₂ => ?_) hp)
  have F₂ := F₁.set hn₂ hs₂
  refine ⟨m', F.ns.sameBut hs₂ hCL, fun h₃ hs₃ => done h₃ _ (F₂.change hs₃ hCL hC₀) fun p hp => ?_⟩
  have key : p.1 ≠ env.locals ∧ h.get? p.1 = some p.2 ∧ p.1 ≠ C ∧ h₀.get? p.1 = none := by
    have fromN : p ∈ (D, PySem.W.listOf ys.toArray ys.length) :: news → p.1 ≠ env.locals ∧ h.get? p.1 = some p.2 ∧ p.1 ≠ C ∧ h₀.get? p.1 = none := fun hp => by
      have z := N p hp
      refine ⟨?_, z.1, z.2.1, ?_⟩
      · intro q; obtain ⟨o, e⟩ := hLs; rw [← q, z.2.2] at e; cases e
      · cases e : h₀.get? p.1 with
        | none => rfl
        | some o => have := F₀.keep _ _ e; rw [z.2.2] at this; cases this
    rcases List.mem_cons.mp hp with h1 | hp
    · exact fromN (h1 ▸ .head _)
    · rcases List.mem_append.mp hp with hp | hp
      · exact fromN (.tail _ hp)
      · have z := N₀ p hp
        refine ⟨z.2.1, F.keep _ _ z.1, ?_, z.2.2⟩
        intro q; have := z.1; rw [q, hC₁] at this; cases this
  exact ⟨hs₃.extBut _ _ key.2.2.1 (hs₂.extBut _ _ key.1 key.2.1), key.1, key.2.2.2⟩
theorem comp_rangeA {env : Env} {elt iter : Expr} {x : Str} {px : Pos} {ifs : List Expr} {scope : Scope} {cl : List (Str × Addr)} {pos : Pos} {Q : Shared → Prop} {y₀ : Str} {py : Pos} {m₀ : Str → Option Value} {news₀ : List (Addr × Obj)} {E : Value → Shared → Prop}
    {s₁ : Shared} {r : Addr} {a b : Int} {t u v : Tok} {n : Nat} (J : Nat → List Value → List (Addr × Obj) → Prop)
    (F₀ : Fr h₀ env.locals s₁.heap m₀) (N₀ : News h₀ env.locals s₁.heap news₀)
    (hh : A.handled = none) (hr : IsRange s₁.heap r a b 1 t u v) (hsm : Builtin.Range.small a b 1 = true) (hn : Builtin.Range.rangeSize a b 1 = ((n : Nat) : Int)) (hsz : n ≤ sizeLine) (h0 : J 0 [] [])
    (test : ∀ i (tv : Tok) ys news I C D oI h tk E', i < n → J i ys news → Fr s₁.heap C h (fun y => if y = x then some (.int (a + (i : Int)) tv) else none) → News s₁.heap C h ((I, oI) :: (D, PySem.W.listOf ys.toArray ys.length) :: news) → (∀ p ∈ news, p.1 ≠ I ∧ p.1 ≠ D) → D ≠ I →
      wpAny (model prog w) A (tests ifs (compEnvC scope cl C env)) (CTest s₁.heap C I D oI (PySem.W.listOf ys.toArray ys.length) (fun y => if y = x then some (.int (a + (i : Int)) tv) else none)
        (fun b news' => if b = true then ∀ oI h tk E', Fr s₁.heap C h (fun y => if y = x then some (.int (a + (i : Int)) tv) else none) → News s₁.heap C h ((I, oI) :: (D, PySem.W.listOf ys.toArray ys.length) :: news') →
            wpAny (model prog w) A (eval elt (compEnvC scope cl C env)) (CElt s₁.heap C I D oI (PySem.W.listOf ys.toArray ys.length) (fun y => if y = x then some (.int (a + (i : Int)) tv) else none) (fun y news'' => J (i + 1) (ys ++ [y]) news'') { s₁ with heap := h, toks := tk }) E' { s₁ with heap := h, toks := tk }
          else J (i + 1) ys news') { s₁ with heap := h, toks := tk }) E' { s₁ with heap := h, toks := tk })
    (done : ∀ D h tk ys news, J n ys news → Fr h₀ env.locals h (fun z => if z = y₀ then some (.ref D) else m₀ z) → News h₀ env.locals h ((D, PySem.W.listOf ys.toArray ys.length) :: (news ++ news₀)) → (∀ p ∈ news, p.1 ≠ D) → Q { s₁ with heap := h, toks := tk })
    (hy : env.kindOf y₀ = some .local := by rfl) (hp : (env.scope.kind == .class || (env.scope.kind == .module && env.locals != env.globals)) = false := by rfl)
    (hkind : scope.kind = .function := by rfl) (hx : scope.names.lookup x = some .local := by rfl) (hcell : ∀ y ∈ scope.names, y.2 ≠ .cell := by decide) :
    CompAtU (some (assign (.Name y₀ py) env)) prog w A env elt iter (.Name x px) ifs scope cl pos (fun _ s' => Q s') E (.ref r) s₁ := by
  unfold CompAtU
  refine wpAny_pyIter_range hr hsm ?_
  refine comp_coreU J hcell hkind hx (LCg.range_walks hh a n) hsz ?_ rfl (fun i h st => ⟨_, st⟩)
    (by show IsRangeIter _ _ _ _ _; rw [hn]; simpa using Heap.get?_push_size _ rfl) h0 (fun i v ys news C D oI h tk E' hi hP hJ F N ha hd => by obtain ⟨tv, rfl⟩ := hP; exact test i tv ys news _ C D oI h tk E' hi hJ F N ha hd) (fun D C h tk ys news m' f hJ F N hne => fin_assign F₀ N₀ hy hp F N fun h tk F' N' => done D h tk ys news hJ F' N' hne)
  intro b hb
  exact .inl (List.mem_singleton.mp hb)


end

end Mine
/-! B6 -/
namespace Mine
section
variable {prog : Program} {w : World} {A : Around} {R : Result → Shared → Prop}
theorem compTurn_last {elt target iter : Expr} {gens : List Comprehension} {depth : Nat} {scope : Scope} {pos : Pos} {it acc : Value} {env : Env}
    (hg : gens[depth]? = some ⟨target, iter, [], 0⟩) (hn : gens[depth + 1]? = none) :
    compTurn (.ListComp elt gens scope pos) depth it acc env = (standAt iter.pos >>= fun _ => pyNext it >>= fun r => match r with
      | none => pure (.done .next)
      | some v => letOwnedTupleGo target it v >>= fun _ => assign target env v >>= fun _ =>
        (eval elt env >>= fun x => call (.builtin "list.append") [acc, x] >>= fun _ => pure ()) >>= fun _ =>
          again (.compLoop (.ListComp elt gens scope pos) depth it acc env)) := by
  unfold compTurn
  simp only [hg, hn]
  rfl
theorem compTurn_more {elt target iter target' iter' : Expr} {ifs' : List Expr} {gens : List Comprehension} {depth : Nat} {scope : Scope} {pos : Pos} {it acc : Value} {env : Env}
    (hg : gens[depth]? = some ⟨target, iter, [], 0⟩) (hn : gens[depth + 1]? = some ⟨target', iter', ifs', 0⟩) :
    compTurn (.ListComp elt gens scope pos) depth it acc env = (standAt iter.pos >>= fun _ => pyNext it >>= fun r => match r with
      | none => pure (.done .next)
      | some v => letOwnedTupleGo target it v >>= fun _ => assign target env v >>= fun _ =>
        eval iter' env >>= fun x => standAt iter'.pos >>= fun _ => foldedSetIterable iter' env x >>= fun x => holding [x] (pyIter x) >>= fun i =>
          runOwn (.compStart (.ListComp elt gens scope pos) (depth + 1) i acc env) env >>= fun _ =>
          again (.compLoop (.ListComp elt gens scope pos) depth it acc env)) := by
  unfold compTurn
  simp only [hg, hn]
  rfl

theorem codeAny_compLoop_last {elt target iter : Expr} {gens : List Comprehension} {depth : Nat} {scope : Scope} {pos : Pos} {it acc : Value} {env : Env} (hg : gens[depth]? = some ⟨target, iter, [], 0⟩) (hn : gens[depth + 1]? = none) (I : Nat → Shared → Prop)
    (turn : ∀ n s, I n s → wpAny (model prog w) A (pyNext it) (fun r s₁ => match r with
      | none => R (.ok .next) s₁
      | some v => wpAny (model prog w) A (assign target env v) (fun _ s₂ => wpAny (model prog w) A (eval elt env) (fun x s₃ =>
          wpAny (model prog w) A (call (.builtin "list.append") [acc, x]) (fun _ s₄ => ∃ m, m < n ∧ I m s₄) (notedBy (model prog w) A env fun e s' => R (.error e) s') s₃)
          (notedBy (model prog w) A env fun e s' => R (.error e) s') s₂) (notedBy (model prog w) A env fun e s' => R (.error e) s') s₁) (notedBy (model prog w) A env fun e s' => R (.error e) s') s)
    {s : Shared} (n : Nat) (h : I n s) (ht : ∀ v, letOwnedTupleGo target it v = pure () := by intro _; rfl) :
    codeAny (model prog w) A (.compLoop (.ListComp elt gens scope pos) depth it acc env) R s := by
  refine codeAny_loop rfl I (fun n s hI => ?_) n h
  show wpAny _ _ ((compTurn (.ListComp elt gens scope pos) depth it acc env).onRaise (fun x => do noteFrame x env; theTreesLotGoes x)) _ _ s
  refine wpAny_noted ?_
  rw [compTurn_last hg hn]
  refine wpAny_bind (wpAny_standAt (wpAny_bind (wpAny_mono (turn n s hI) (fun r s₁ h₁ => ?_) fun _ _ h' => h')))
  cases r with
  | none => exact wpAny_pure h₁
  | some v =>
    refine wpAny_bind (wpAny_of_eq (ht v) ?_)
    exact wpAny_bind (wpAny_mono h₁ (fun _ s₂ h₂ => wpAny_bind (wpAny_bind (wpAny_mono h₂ (fun x s₃ h₃ => wpAny_bind (wpAny_mono h₃
      (fun _ s₄ h₄ => wpAny_pure (wpAny_pure ⟨rfl, h₄⟩)) fun _ _ h' => h')) fun _ _ h' => h'))) fun _ _ h' => h')

theorem codeAny_compLoop_more {elt target iter target' iter' : Expr} {ifs' : List Expr} {gens : List Comprehension} {depth : Nat} {scope : Scope} {pos : Pos} {it acc : Value} {env : Env}
    (hg : gens[depth]? = some ⟨target, iter, [], 0⟩) (hn : gens[depth + 1]? = some ⟨target', iter', ifs', 0⟩) (hs : ∀ x, foldedSetIterable iter' env x = pure x) (I : Nat → Shared → Prop)
    (turn : ∀ n s, I n s → wpAny (model prog w) A (pyNext it) (fun r s₁ => match r with
      | none => R (.ok .next) s₁
      | some v => wpAny (model prog w) A (assign target env v) (fun _ s₂ => wpAny (model prog w) A (eval iter' env) (fun x s₃ =>
          wpAny (model prog w) A (pyIter x) (fun i s₄ => codeAny (model prog w) A (.compStart (.ListComp elt gens scope pos) (depth + 1) i acc env) (fun r s' => match r with
              | .ok _ => ∃ m, m < n ∧ I m s'
              | .error e => cameBackBy (model prog w) A env (notedBy (model prog w) A env fun e s' => R (.error e) s') e s') s₄) (notedBy (model prog w) A env fun e s' => R (.error e) s') s₃)
          (notedBy (model prog w) A env fun e s' => R (.error e) s') s₂) (notedBy (model prog w) A env fun e s' => R (.error e) s') s₁) (notedBy (model prog w) A env fun e s' => R (.error e) s') s)
    {s : Shared} (n : Nat) (h : I n s) (ht : ∀ v, letOwnedTupleGo target it v = pure () := by intro _; rfl) :
    codeAny (model prog w) A (.compLoop (.ListComp elt gens scope pos) depth it acc env) R s := by
  refine codeAny_loop rfl I (fun n s hI => ?_) n h
  show wpAny _ _ ((compTurn (.ListComp elt gens scope pos) depth it acc env).onRaise (fun x => do noteFrame x env; theTreesLotGoes x)) _ _ s
  refine wpAny_noted ?_
  rw [compTurn_more hg hn]
  refine wpAny_bind (wpAny_standAt (wpAny_bind (wpAny_mono (turn n s hI) (fun r s₁ h₁ => ?_) fun _ _ h' => h')))
  cases r with
  | none => exact wpAny_pure h₁
  | some v =>
    refine wpAny_bind (wpAny_of_eq (ht v) ?_)
    refine wpAny_bind (wpAny_mono h₁ (fun _ s₂ h₂ => wpAny_bind (wpAny_mono h₂ (fun x s₃ h₃ => wpAny_bind (wpAny_standAt (wpAny_bind (wpAny_of_eq (hs x) ?_)))) fun _ _ h' => h')) fun _ _ h' => h')
    refine wpAny_bind (wpAny_holding (wpAny_mono h₃ (fun i s₄ h₄ => ?_) fun _ _ h' => h'))
    refine wpAny_bind (wpAny_runOwn (by
      show codeAny (model prog w) A _ _ _
      refine codeAny_mono h₄ fun r s₅ h₅ => ?_
      cases r with
      | ok f => exact wpAny_pure ⟨rfl, h₅⟩
      | error e => exact h₅))

theorem codeAny_compStart_at {elt target iter : Expr} {ifs : List Expr} {gens : List Comprehension} {depth : Nat} {scope : Scope} {pos : Pos} {it acc : Value} {env : Env} {s : Shared}
    (hg : gens[depth]? = some ⟨target, iter, ifs, 0⟩)
    (h0 : codeAny (model prog w) A (.compLoop (.ListComp elt gens scope pos) depth it acc env) R s)
    (h : wpAny (model prog w) A (pyIter it) (fun it' s' => codeAny (model prog w) A (.compLoop (.ListComp elt gens scope pos) depth it' acc env) R s')
      (notedBy (model prog w) A env fun x s' => R (.error x) s') s) :
    codeAny (model prog w) A (.compStart (.ListComp elt gens scope pos) depth it acc env) R s := by
  refine codeAny_of_tree ?_
  show wpAny _ _ ((compStart (.ListComp elt gens scope pos) depth it acc env).onRaise (fun x => do noteFrame x env; standAt theWindowsPlace)) _ _ s
  refine wpAny_notedAt ?_
  unfold compStart
  have e : (clausesOf (.ListComp elt gens scope pos))[depth]? = some ⟨target, iter, ifs, 0⟩ := hg
  simp only [e]
  show wpAny _ _ (ask >>= _) _ _ s
  refine wpAny_bind (wpAny_askSetting (wpAny_ite ?_))
  split
  · first
      | exact wpAny_bind (wpAny_pure (wpAny_pure (And.intro rfl h0)))
      | exact wpAny_pure (And.intro rfl h0)
  · first
      | exact wpAny_bind (wpAny_rule (wpAny_bind (wpAny_standAt (wpAny_bind (wpAny_mono h (fun it' s' h' => wpAny_pure (And.intro rfl h')) fun _ _ x => x)))))
      | (refine wpAny_bind (wpAny_rule ?_); show wpAny _ _ (standAt iter.pos >>= _) _ _ s; exact wpAny_bind (wpAny_standAt (wpAny_bind (wpAny_mono h (fun it' s' h' => wpAny_pure (And.intro rfl h')) fun _ _ x => x))))
end

end Mine
/-! B7 -/
namespace Mine
section
variable {prog : Program} {w : World} {A : Around} {g : Heap}
/-- one level of a comprehension's clauses: what a turn may find and must leave -/
structure LvHere (g : Heap) (C J D : Addr) (oJ : Obj) (others : List (Addr × Obj)) (xs : List Str) (m m2 : Str → Option Value) (x : Str) (v : Value) (ys : List Value) (h : Heap) : Prop where
  agree : ∀ z, z ∉ xs → m2 z = m z
  at' : m2 x = some v
  F : Fr g C h m2
  N : News g C h ((J, oJ) :: (D, PySem.W.listOf ys.toArray ys.length) :: others)

theorem level_last {elt iter : Expr} {x : Str} {px : Pos} {gens : List Comprehension} {depth : Nat} {scope : Scope} {cl : List (Str × Addr)} {pos : Pos} {env : Env} {C J D : Addr} {R : Result → Shared → Prop}
    {s : Shared} {m : Str → Option Value} {xs : List Str} {others : List (Addr × Obj)} {ys : List Value} {fp : List Addr} {n : Nat} {P : Nat → Value → Prop} {St : Nat → Heap → Prop} (Elt : Nat → Value → Prop)
    (hg : gens[depth]? = some ⟨.Name x px, iter, [], 0⟩) (hn : gens[depth + 1]? = none) (hkind : scope.kind = .function) (hx : scope.names.lookup x = some .local) (hxs : x ∈ xs)
    (W : Walks prog w A J fp [J] n P St) (hIo : ∀ i h, St i h → ∃ o, h.get? J = some o) (hJC : J ≠ C) (hJg : g.get? J = none) (hCfp : C ∉ fp) (hfp : ∀ b ∈ fp, b = J ∨ (∃ o, g.get? b = some o) ∨ ∃ o, (b, o) ∈ others)
    (hst : St 0 s.heap) (hm : ∀ z, z ∉ xs → m z = m z) (F : Fr g C s.heap m) (N : News g C s.heap ((D, PySem.W.listOf ys.toArray ys.length) :: others)) (hDJ : D ≠ J) (hO : ∀ p ∈ others, p.1 ≠ J ∧ p.1 ≠ D) (hsz : ys.length + n ≤ sizeLine)
    (hel : ∀ i v m2 oJ ys' h tk E', i < n → P i v → LvHere g C J D oJ others xs m m2 x v ys' h →
      wpAny (model prog w) A (eval elt (compEnvC scope cl C env)) (fun y s' => Ex2 fun h' tk' => A4 (s' = { s with heap := h', toks := tk' }) (Fr g C h' m2) (News g C h' ((J, oJ) :: (D, PySem.W.listOf ys'.toArray ys'.length) :: others)) (Elt i y)) E' { s with heap := h, toks := tk })
    (post : ∀ h tk m' zs, zs.length = n → (∀ (j : Nat) y, zs[j]? = some y → Elt j y) → (∀ z, z ∉ xs → m' z = m z) → Fr g C h m' → News g C h ((D, PySem.W.listOf (ys ++ zs).toArray (ys ++ zs).length) :: others) → R (.ok .next) { s with heap := h, toks := tk }) :
    codeAny (model prog w) A (.compStart (.ListComp elt gens scope pos) depth (.ref J) (.ref D) (compEnvC scope cl C env)) R s := by
  have loop : codeAny (model prog w) A (.compLoop (.ListComp elt gens scope pos) depth (.ref J) (.ref D) (compEnvC scope cl C env)) R s := by
    refine codeAny_compLoop_last hg hn (fun k s' => Ex5 fun (h : Heap) (tk : Nat) (i : Nat) (zs : List Value) (m' : Str → Option Value) => A9 (s' = { s with heap := h, toks := tk }) (i ≤ n) (k = n + 1 - i) (St i h) (zs.length = i) ((∀ (j : Nat) y, zs[j]? = some y → Elt j y)) ((∀ z, z ∉ xs → m' z = m z)) (Fr g C h m') (News g C h ((D, PySem.W.listOf (ys ++ zs).toArray (ys ++ zs).length) :: others))) ?_ (n + 1) ⟨s.heap, s.toks, 0, [], m, rfl, Nat.zero_le _, rfl, hst, rfl, by intro j y e; simp at e, hm, F, by rw [List.append_nil]; exact N⟩
    rintro k s' ⟨h, tk, i, zs, m', rfl, hi, rfl, hst', hzl, hz, hm', F', N'⟩
    have keepF : ∀ h₂ : Heap, (∀ b o, b ∉ [J] → h.get? b = some o → h₂.get? b = some o) → Fr g C h₂ m' ∧ News g C h₂ ((D, PySem.W.listOf (ys ++ zs).toArray (ys ++ zs).length) :: others) := fun h₂ hk =>
      ⟨⟨F'.ns.at' fun o e => hk _ o (fun hm => hJC (List.mem_singleton.mp hm).symm) e, fun b o e => hk b o (fun hm => by rw [List.mem_singleton.mp hm, hJg] at e; cases e) (F'.keep b o e), F'.above⟩,
        fun p hp => ⟨hk _ _ (fun hm => by
          rcases List.mem_cons.mp hp with rfl | hp
          · exact hDJ (List.mem_singleton.mp hm)
          · exact (hO p hp).1 (List.mem_singleton.mp hm)) (N' p hp).1, (N' p hp).2⟩⟩
    by_cases hlt : i < n
    · refine W.item i _ _ _ hlt hst' fun v h₂ tk₂ hP hst₂ hk₂ => ?_
      obtain ⟨F₂, N₂⟩ := keepF h₂ hk₂
      refine wpAny_assign_Name (wpAny_storeName_local (lookup_relabel_local hx) F₂.ns (fun h₃ hn₃ hs₃ => ?_) (by simp [compEnvC, relabel, hkind]))
      have F₃ := F₂.set hn₃ hs₃
      have hst₃ : St (i + 1) h₃ := W.frame _ _ _ hst₂ fun b hb o e => hs₃.extBut b o (fun q => hCfp ((show b = C from q) ▸ hb)) e
      obtain ⟨oJ, hoJ⟩ := hIo _ _ hst₃
      have N₃ : News g C h₃ ((J, oJ) :: (D, PySem.W.listOf (ys ++ zs).toArray (ys ++ zs).length) :: others) := fun p hp => by
        rcases List.mem_cons.mp hp with rfl | hp
        · exact ⟨hoJ, hJC, hJg⟩
        · exact (N₂.set hs₃) p hp
      refine wpAny_mono (hel i v _ oJ (ys ++ zs) h₃ _ _ hlt hP ⟨fun z hz => (if_neg (fun (q : z = x) => hz (by rw [q]; exact hxs))).trans (hm' z hz), if_pos rfl, F₃, N₃⟩) (fun y s₄ h₄ => ?_) fun _ _ e => e
      obtain ⟨h₄, tk₄, rfl, F₄, N₄, hy⟩ := h₄
      have zD := (N₄ (D, PySem.W.listOf (ys ++ zs).toArray (ys ++ zs).length) (List.mem_cons_of_mem _ List.mem_cons_self))
      refine append_at (hsz := by show (ys ++ zs).toArray.size ≤ sizeLine; rw [List.size_toArray, List.length_append]; omega) zD.1 fun h₆ hs₆ hD₆ => ?_
      refine ⟨n + 1 - (i + 1), by omega, h₆, tk₄, i + 1, zs ++ [y], _, rfl, hlt, rfl, ?_, by rw [List.length_append, hzl]; rfl, ?_, ?_, F₄.change hs₆ zD.2.1 zD.2.2, ?_⟩
      · refine W.frame _ _ _ hst₃ fun b hb o e => ?_
        rcases hfp b hb with rfl | ⟨o', e'⟩ | ⟨o', hm⟩
        · rw [hoJ] at e; cases e; exact hs₆.extBut _ _ (Ne.symm hDJ) (N₄ _ (List.mem_cons_self ..)).1
        · have : o' = o := by have := F₃.keep b o' e'; rw [e] at this; exact (Option.some.inj this).symm
          exact hs₆.extBut _ _ (fun q => by have z := zD.2.2; rw [← q, e'] at z; cases z) (this ▸ F₄.keep b o' e')
        · have z3 := (N₃ _ (List.mem_cons_of_mem _ (List.mem_cons_of_mem _ hm))).1
          have z4 := (N₄ _ (List.mem_cons_of_mem _ (List.mem_cons_of_mem _ hm))).1
          dsimp only at z3 z4
          rw [z3] at e; cases e
          exact hs₆.extBut _ _ (hO _ hm).2 z4
      · intro j y' e
        by_cases q : j < zs.length
        · rw [List.getElem?_append_left q] at e; exact hz j y' e
        · have hl : j < (zs ++ [y]).length := (List.getElem?_eq_some_iff.mp e).1
          rw [List.length_append, List.length_cons, List.length_nil] at hl
          have e2 : j = zs.length := by omega
          subst e2
          rw [List.getElem?_append_right (Nat.le_refl _), Nat.sub_self] at e
          simp only [List.getElem?_cons_zero, Option.some.injEq] at e
          subst e; rw [hzl]; exact hy
      · intro z hz; exact (if_neg (fun (q : z = x) => hz (by rw [q]; exact hxs))).trans (hm' z hz)
      · intro p hp
        rcases List.mem_cons.mp hp with rfl | hp
        · refine ⟨hD₆.trans ?_, zD.2⟩
          have e1 : ys ++ (zs ++ [y]) = (ys ++ zs) ++ [y] := (List.append_assoc ..).symm
          have e2 : ((ys ++ zs) ++ [y]).length = (ys ++ zs).length + 1 := List.length_append
          rw [e1, e2, List.push_toArray]
        · have z := N₄ p (List.mem_cons_of_mem _ (List.mem_cons_of_mem _ hp))
          exact ⟨hs₆.extBut _ _ (hO p hp).2 z.1, z.2⟩
    · obtain rfl : i = n := Nat.le_antisymm hi (Nat.not_lt.mp hlt)
      refine W.done _ _ _ hst' fun h₂ tk₂ hk₂ => ?_
      obtain ⟨F₂, N₂⟩ := keepF h₂ hk₂
      exact post h₂ tk₂ m' zs hzl hz hm' F₂ N₂
  exact codeAny_compStart_at hg loop (W.self 0 _ _ _ hst loop)

/-- what an inner level leaves -/
noncomputable def LvPost (g : Heap) (C J D : Addr) (oJ : Obj) (others : List (Addr × Obj)) (xs : List Str) (m : Str → Option Value) (ys : List Value) (Elts : List Value → Prop) (s : Shared) (r : Result) (s' : Shared) : Prop :=
  match r with
  | .ok _ => ∃ h tk m' zs, s' = { s with heap := h, toks := tk } ∧ (∀ z, z ∉ xs → m' z = m z) ∧ Fr g C h m' ∧ News g C h ((J, oJ) :: (D, PySem.W.listOf (ys ++ zs).toArray (ys ++ zs).length) :: others) ∧ Elts zs
  | .error _ => False

theorem level_more {elt iter iter' target' : Expr} {ifs' : List Expr} {x : Str} {px : Pos} {gens : List Comprehension} {depth : Nat} {scope : Scope} {cl : List (Str × Addr)} {pos : Pos} {env : Env} {C J D : Addr} {R : Result → Shared → Prop}
    {s : Shared} {m : Str → Option Value} {xs : List Str} {others : List (Addr × Obj)} {ys : List Value} {fp : List Addr} {n : Nat} {P : Nat → Value → Prop} {St : Nat → Heap → Prop} (Elts : Nat → List Value → Prop)
    (hg : gens[depth]? = some ⟨.Name x px, iter, [], 0⟩) (hn : gens[depth + 1]? = some ⟨target', iter', ifs', 0⟩) (hs : ∀ y, foldedSetIterable iter' (compEnvC scope cl C env) y = pure y) (hkind : scope.kind = .function) (hx : scope.names.lookup x = some .local) (hxs : x ∈ xs)
    (W : Walks prog w A J fp [J] n P St) (hIo : ∀ i h, St i h → ∃ o, h.get? J = some o) (hJC : J ≠ C) (hJg : g.get? J = none) (hCfp : C ∉ fp) (hfp : ∀ b ∈ fp, b = J ∨ (∃ o, g.get? b = some o) ∨ ∃ o, (b, o) ∈ others)
    (hst : St 0 s.heap) (F : Fr g C s.heap m) (N : News g C s.heap ((D, PySem.W.listOf ys.toArray ys.length) :: others)) (hDJ : D ≠ J) (hO : ∀ p ∈ others, p.1 ≠ J ∧ p.1 ≠ D)
    (hin : ∀ i v m2 oJ ys' h tk E', i < n → P i v → LvHere g C J D oJ others xs m m2 x v (ys ++ ys') h → (∃ zss : List (List Value), zss.length = i ∧ (∀ (j : Nat) zs, zss[j]? = some zs → Elts j zs) ∧ ys' = zss.flatten) →
      wpAny (model prog w) A (eval iter' (compEnvC scope cl C env)) (fun xv s₁ => wpAny (model prog w) A (pyIter xv) (fun it s₂ =>
        codeAny (model prog w) A (.compStart (.ListComp elt gens scope pos) (depth + 1) it (.ref D) (compEnvC scope cl C env)) (LvPost g C J D oJ others xs m (ys ++ ys') (Elts i) s) s₂) E' s₁) E' { s with heap := h, toks := tk })
    (post : ∀ (h : Heap) (tk : Nat) (m' : Str → Option Value) (zss : List (List Value)), zss.length = n → (∀ (j : Nat) zs, zss[j]? = some zs → Elts j zs) → (∀ z, z ∉ xs → m' z = m z) → Fr g C h m' → News g C h ((D, PySem.W.listOf (ys ++ zss.flatten).toArray (ys ++ zss.flatten).length) :: others) → R (.ok .next) { s with heap := h, toks := tk }) :
    codeAny (model prog w) A (.compStart (.ListComp elt gens scope pos) depth (.ref J) (.ref D) (compEnvC scope cl C env)) R s := by
  have loop : codeAny (model prog w) A (.compLoop (.ListComp elt gens scope pos) depth (.ref J) (.ref D) (compEnvC scope cl C env)) R s := by
    refine codeAny_compLoop_more hg hn hs (fun k s' => Ex5 fun (h : Heap) (tk : Nat) (i : Nat) (zss : List (List Value)) (m' : Str → Option Value) => A9 (s' = { s with heap := h, toks := tk }) (i ≤ n) (k = n + 1 - i) (St i h) (zss.length = i) ((∀ (j : Nat) zs, zss[j]? = some zs → Elts j zs)) ((∀ z, z ∉ xs → m' z = m z)) (Fr g C h m') (News g C h ((D, PySem.W.listOf (ys ++ zss.flatten).toArray (ys ++ zss.flatten).length) :: others))) ?_ (n + 1) ⟨s.heap, s.toks, 0, [], m, rfl, Nat.zero_le _, rfl, hst, rfl, by intro j y e; simp at e, fun _ _ => rfl, F, by rw [List.flatten_nil, List.append_nil]; exact N⟩
    rintro k s' ⟨h, tk, i, zss, m', rfl, hi, rfl, hst', hzl, hz, hm', F', N'⟩
    have keepF : ∀ h₂ : Heap, (∀ b o, b ∉ [J] → h.get? b = some o → h₂.get? b = some o) → Fr g C h₂ m' ∧ News g C h₂ ((D, PySem.W.listOf (ys ++ zss.flatten).toArray (ys ++ zss.flatten).length) :: others) := fun h₂ hk =>
      ⟨⟨F'.ns.at' fun o e => hk _ o (fun hm => hJC (List.mem_singleton.mp hm).symm) e, fun b o e => hk b o (fun hm => by rw [List.mem_singleton.mp hm, hJg] at e; cases e) (F'.keep b o e), F'.above⟩,
        fun p hp => ⟨hk _ _ (fun hm => by
          rcases List.mem_cons.mp hp with rfl | hp
          · exact hDJ (List.mem_singleton.mp hm)
          · exact (hO p hp).1 (List.mem_singleton.mp hm)) (N' p hp).1, (N' p hp).2⟩⟩
    by_cases hlt : i < n
    · refine W.item i _ _ _ hlt hst' fun v h₂ tk₂ hP hst₂ hk₂ => ?_
      obtain ⟨F₂, N₂⟩ := keepF h₂ hk₂
      refine wpAny_assign_Name (wpAny_storeName_local (lookup_relabel_local hx) F₂.ns (fun h₃ hn₃ hs₃ => ?_) (by simp [compEnvC, relabel, hkind]))
      have F₃ := F₂.set hn₃ hs₃
      have hst₃ : St (i + 1) h₃ := W.frame _ _ _ hst₂ fun b hb o e => hs₃.extBut b o (fun q => hCfp ((show b = C from q) ▸ hb)) e
      obtain ⟨oJ, hoJ⟩ := hIo _ _ hst₃
      have N₃ : News g C h₃ ((J, oJ) :: (D, PySem.W.listOf (ys ++ zss.flatten).toArray (ys ++ zss.flatten).length) :: others) := fun p hp => by
        rcases List.mem_cons.mp hp with rfl | hp
        · exact ⟨hoJ, hJC, hJg⟩
        · exact (N₂.set hs₃) p hp
      refine wpAny_mono (hin i v _ oJ zss.flatten h₃ _ _ hlt hP ⟨fun z hz => (if_neg (fun (q : z = x) => hz (by rw [q]; exact hxs))).trans (hm' z hz), if_pos rfl, F₃, N₃⟩ ⟨zss, hzl, hz, rfl⟩) (fun xv s₄ h₄ => ?_) fun _ _ e => e
      refine wpAny_mono h₄ (fun it s₅ h₅ => ?_) fun _ _ e => e
      refine codeAny_mono h₅ fun r s₆ h₆ => ?_
      cases r with
      | error e => exact h₆.elim
      | ok f =>
        obtain ⟨h₇, tk₇, m₇, zs, rfl, hm₇, F₇, N₇, hzs⟩ := h₆
        have e1 : ys ++ zss.flatten ++ zs = ys ++ (zss ++ [zs]).flatten := by simp
        rw [e1] at N₇
        refine ⟨n + 1 - (i + 1), by omega, h₇, tk₇, i + 1, zss ++ [zs], _, rfl, hlt, rfl, ?_, by rw [List.length_append, hzl]; rfl, ?_, hm₇, F₇, fun p hp => N₇ p (List.mem_cons_of_mem _ hp)⟩
        · refine W.frame _ _ _ hst₃ fun b hb o e => ?_
          rcases hfp b hb with rfl | ⟨o', e'⟩ | ⟨o', hm⟩
          · rw [hoJ] at e; cases e; exact (N₇ _ (List.mem_cons_self ..)).1
          · have : o' = o := by have := F₃.keep b o' e'; rw [e] at this; exact (Option.some.inj this).symm
            exact this ▸ F₇.keep b o' e'
          · have z3 := (N₃ _ (List.mem_cons_of_mem _ (List.mem_cons_of_mem _ hm))).1
            have z4 := (N₇ _ (List.mem_cons_of_mem _ (List.mem_cons_of_mem _ hm))).1
            dsimp only at z3 z4
            rw [z3] at e; cases e; exact z4
        · intro j y' e
          by_cases q : j < zss.length
          · rw [List.getElem?_append_left q] at e; exact hz j y' e
          · have hl : j < (zss ++ [zs]).length := (List.getElem?_eq_some_iff.mp e).1
            rw [List.length_append, List.length_cons, List.length_nil] at hl
            have e2 : j = zss.length := by omega
            subst e2
            rw [List.getElem?_append_right (Nat.le_refl _), Nat.sub_self] at e
            simp only [List.getElem?_cons_zero, Option.some.injEq] at e
            subst e; rw [hzl]; exact hzs
    · obtain rfl : i = n := Nat.le_antisymm hi (Nat.not_lt.mp hlt)
      refine W.done _ _ _ hst' fun h₂ tk₂ hk₂ => ?_
      obtain ⟨F₂, N₂⟩ := keepF h₂ hk₂
      exact post h₂ tk₂ m' zss hzl hz hm' F₂ N₂
  exact codeAny_compStart_at hg loop (W.self 0 _ _ _ hst loop)

theorem comp_top {use : Option (Value → Sem Unit)} {env : Env} {elt : Expr} {gens : List Comprehension} {scope : Scope} {cl : List (Str × Addr)} {pos : Pos} {Q : Value → Shared → Prop} {E : Value → Shared → Prop}
    {s₁ : Shared} {oI₀ : Obj} {fp : List Addr} {n : Nat} {P : Nat → Value → Prop} {St : Nat → Heap → Prop}
    (hcell : ∀ y ∈ scope.names, y.2 ≠ .cell) (hkind : scope.kind = .function)
    (W : Walks prog w A s₁.heap.objs.size fp [s₁.heap.objs.size] n P St) (hst : St 0 (s₁.heap.push oI₀))
    (k : ∀ C D h tk, Fr s₁.heap C h (fun _ => none) → News s₁.heap C h [(D, PySem.W.listOf ([] : List Value).toArray ([] : List Value).length)] → St 0 h → D ≠ s₁.heap.objs.size → s₁.heap.objs.size ≠ C → s₁.heap.get? s₁.heap.objs.size = none →
      codeAny (model prog w) A (.compStart (.ListComp elt gens scope pos) 0 (.ref s₁.heap.objs.size) (.ref D) (compEnvC scope cl C env)) (compPost (model prog w) A E use Q (.ref D) C) { s₁ with heap := h, toks := tk }) :
    wpAny (model prog w) A (newList []) (fun acc s₃ => wpAny (model prog w) A (newFunctionEnv scope env.globals cl [] env.qual none .none (some env)) (fun cenv s₄ =>
      codeAny (model prog w) A (.compStart (.ListComp elt gens scope pos) 0 (.ref s₁.heap.objs.size) acc { cenv with scope := relabel scope env }) (compPost (model prog w) A E use Q acc cenv.locals) s₄) E s₃) E { s₁ with heap := s₁.heap.push oI₀ } := by
  refine wpAny_newObj_type (wpAny_newFunctionEnv hcell (by intro y hy; simp at hy) (fun h₁ hns₁ hsb₁ => ?_) hkind)
  dsimp only at hns₁ hsb₁ ⊢
  generalize hI : s₁.heap.objs.size = I at *
  generalize hH1 : s₁.heap.push oI₀ = H1 at hns₁ hsb₁ hst ⊢
  have s1 : H1.objs.size = I + 1 := by rw [← hH1, Heap.size_push, hI]
  generalize hD : H1.objs.size = D at *
  generalize hH2 : H1.push { cls := .type "list", dict := none, data := .seq ([] : List Value).toArray } = H2 at hns₁ hsb₁ ⊢
  have s2 : H2.objs.size = D + 1 := by rw [← hH2, Heap.size_push, hD]
  generalize hC : H2.objs.size = C at *
  have hDI : D ≠ I := by omega
  have hCI : C ≠ I := by omega
  have hCD : C ≠ D := by omega
  have old₁ : ∀ b o, H1.get? b = some o → h₁.get? b = some o := fun b o e => by
    have : b < D := hD ▸ Heap.lt_size e
    exact hsb₁.extBut b o (Nat.ne_of_lt (Nat.lt_trans this (by omega))) (Heap.get?_push_of_some _ (hH2 ▸ Heap.get?_push_of_some _ e))
  have old : ∀ b o, s₁.heap.get? b = some o → h₁.get? b = some o := fun b o e => old₁ b o (hH1 ▸ Heap.get?_push_of_some _ e)
  have fresh : ∀ a, I ≤ a → s₁.heap.get? a = none := fun a ha => by
    cases e : s₁.heap.get? a with
    | none => rfl
    | some o' => exact absurd (hI ▸ Heap.lt_size e) (Nat.not_lt.mpr ha)
  have F₁ : Fr s₁.heap C h₁ (fun _ => none) := ⟨by simpa using hns₁, old, by omega⟩
  have hst₁ : St 0 h₁ := W.frame _ _ _ hst fun b _ o e => old₁ b o e
  have hlD : h₁.get? D = some (PySem.W.listOf ([] : List Value).toArray 0) := by
    refine hsb₁.extBut _ _ (Ne.symm hCD) (Heap.get?_push_of_some _ ?_)
    rw [← hH2]; have := Heap.get?_push_size H1 (o := { cls := .type "list", dict := none, data := .seq ([] : List Value).toArray }) rfl
    rw [hD] at this; exact this
  exact k C D h₁ _ F₁ (fun p hp => by obtain rfl := List.mem_singleton.mp hp; exact ⟨hlD, Ne.symm hCD, fresh _ (by omega)⟩) hst₁ hDI (Ne.symm hCI) (fresh _ (Nat.le_refl _))
end

end Mine
/-! B8 -/
namespace Mine
section
variable {prog : Program} {w : World} {A : Around} {h₀ : Heap}
noncomputable def CompAtG (use : Option (Value → Sem Unit)) (prog : Program) (w : World) (A : Around) (env : Env) (elt : Expr) (gens : List Comprehension) (scope : Scope) (cl : List (Str × Addr)) (pos : Pos) (Q : Value → Shared → Prop) (E : Value → Shared → Prop) (xv : Value) (s₁ : Shared) : Prop :=
  wpAny (model prog w) A (pyIter xv) (fun it s₂ => wpAny (model prog w) A (newList []) (fun acc s₃ => wpAny (model prog w) A (newFunctionEnv scope env.globals cl [] env.qual none .none (some env)) (fun cenv s₄ =>
      codeAny (model prog w) A (.compStart (.ListComp elt gens scope pos) 0 it acc { cenv with scope := relabel scope env }) (compPost (model prog w) A E use Q acc cenv.locals) s₄) E s₃) E s₂) E s₁

theorem AssignCompG {env : Env} {elt iter target : Expr} {rest : List Comprehension} {scope : Scope} {cl : List (Str × Addr)} {pos spos : Pos} {y : Str} {py : Pos} {Q : Flow → Shared → Prop} {E : Value → Shared → Prop} {s : Shared}
    (hclos : closureFor scope env = pure cl)
    (h : wpAny (model prog w) A (eval iter env) (CompAtG (some (assign (.Name y py) env)) prog w A env elt (⟨target, iter, [], 0⟩ :: rest) scope cl pos (fun _ s' => Q .next s') E) E s)
    (hsw : swapsWith (.ListComp elt (⟨target, iter, [], 0⟩ :: rest) scope pos) (some (.Name y py)) spos.line env = pure true := by with_unfolding_all rfl)
    (hkind : scope.kind = .function := by rfl)
    (hnames : ∀ y ∈ scope.names, y.2 = .local → scope.names.lookup y.1 = some .local := by decide)
    (hs : ∀ x, foldedSetIterable iter env x = pure x := by intro _; rfl) :
    wpAny (model prog w) A (exec (.Assign [.Name y py] (.ListComp elt (⟨target, iter, [], 0⟩ :: rest) scope pos) spos) env) Q E s := by
  rw [exec_Assign_Name_used _ _ _ _ hsw]
  refine wpAny_bind (wpAny_standAt (wpAny_bind ?_))
  show wpAny _ A (do let _ ← comprehension (.ListComp elt (⟨target, iter, [], 0⟩ :: rest) scope pos) scope env _ (newList []) false (eval iter env) (some (assign (.Name y py) env))) _ _ s
  exact wpAny_bind (wpAny_mono (wpAny_comprehension_free (use := some (assign (.Name y py) env)) (Q := fun _ s' => Q .next s') rfl hs hclos hkind hnames h) (fun _ s' hq => wpAny_pure (wpAny_pure hq)) fun _ _ e => e)

theorem eq_of_get {α : Type} {a b : List α} (hl : a.length = b.length) (h : ∀ (j : Nat) z, a[j]? = some z → b[j]? = some z) : a = b := by
  refine List.ext_getElem? fun j => ?_
  by_cases q : j < a.length
  · rw [h j _ (List.getElem?_eq_getElem q), List.getElem?_eq_getElem q]
  · rw [List.getElem?_eq_none (by omega), List.getElem?_eq_none (by omega)]

theorem flat2A {env : Env} {iter : Expr} {x1 x2 y₀ : Str} {px1 px2 px3 px4 py : Pos} {scope : Scope} {cl : List (Str × Addr)} {pos : Pos} {Q : Shared → Prop} {E : Value → Shared → Prop} {m₀ : Str → Option Value} {news₀ : List (Addr × Obj)}
    {s₁ : Shared} {l : Addr} {its : Array Value} (rows : List (List Value)) (F₀ : Fr h₀ env.locals s₁.heap m₀) (N₀ : News h₀ env.locals s₁.heap news₀)
    (hh : A.handled = none) (hl : s₁.heap.IsList l its) (hrl : its.size = rows.length) (hrow : ∀ (i : Nat) v, its[i]? = some v → ∃ a r, v = .ref a ∧ rows[i]? = some r ∧ s₁.heap.IsList a r.toArray) (hsz : rows.flatten.length ≤ sizeLine)
    (done : ∀ D h tk, Fr h₀ env.locals h (fun z => if z = y₀ then some (.ref D) else m₀ z) → News h₀ env.locals h ((D, PySem.W.listOf rows.flatten.toArray rows.flatten.length) :: news₀) → Q { s₁ with heap := h, toks := tk })
    (hy : env.kindOf y₀ = some .local := by rfl) (hp : (env.scope.kind == .class || (env.scope.kind == .module && env.locals != env.globals)) = false := by rfl)
    (hkind : scope.kind = .function := by rfl) (hx1 : scope.names.lookup x1 = some .local := by rfl) (hx2 : scope.names.lookup x2 = some .local := by rfl) (hcell : ∀ y ∈ scope.names, y.2 ≠ .cell := by decide)
    (hd1 : (x1 == ("__debug__" : Str)) = false := by decide) (hd2 : (x2 == ("__debug__" : Str)) = false := by decide) :
    CompAtG (some (assign (.Name y₀ py) env)) prog w A env (.Name x2 px4) [⟨.Name x1 px1, iter, [], 0⟩, ⟨.Name x2 px2, .Name x1 px3, [], 0⟩] scope cl pos (fun _ s' => Q s') E (.ref l) s₁ := by
  unfold CompAtG
  obtain ⟨ol, hol, _⟩ := id hl
  have hlt := Heap.lt_size hol
  refine wpAny_pyIter_list hl ?_
  refine comp_top hcell hkind (Walks.list hh s₁.heap.objs.size l (Nat.ne_of_lt hlt) its) ⟨⟨_, Heap.get?_push_size _ rfl, rfl, rfl⟩, hl.push _⟩ fun C D h tk F N st hDJ hJC fresh => ?_
  have hlC : l ≠ C := by rintro rfl; have := Heap.get?_none_of_le F.above; rw [hol] at this; cases this
  refine level_more (xs := [x1, x2]) (m := fun _ => none) (others := []) (ys := []) (fun i zs => rows[i]? = some zs) rfl rfl (by intro _; rfl) hkind hx1 (.head _) (Walks.list hh s₁.heap.objs.size l (Nat.ne_of_lt hlt) its)
    (fun i h st => by obtain ⟨o, e, _⟩ := st.1; exact ⟨o, e⟩) hJC fresh (by intro hm; rcases List.mem_cons.mp hm with e | hm; exact hJC e.symm; exact hlC (List.mem_singleton.mp hm).symm)
    (by intro b hb; rcases List.mem_cons.mp hb with rfl | hb; exact .inl rfl; rw [List.mem_singleton.mp hb]; exact .inr (.inl ⟨_, hol⟩)) st F N hDJ (fun _ hp => nomatch hp) ?hin ?post
  case post =>
    intro h3 tk3 m3 zss hzl hz hm3 F3 N3
    have e : zss = rows := eq_of_get (hzl.trans hrl) hz
    subst e
    rw [List.nil_append] at N3
    exact fin_assign F₀ N₀ hy hp F3 N3 fun h tk F' N' => done D h tk F' N'
  case hin =>
    rintro i v m2 oJ ys' h2 tk2 E' hi hP ⟨ha, hat, F2, N2⟩ ⟨zss, hzl, hz, rfl⟩
    obtain ⟨a, r, rfl, hr, hla⟩ := hrow i v hP
    refine cn_local F2 hx1 hat ?_ hkind hd1
    have hla2 := hla.at (fun o e => F2.keep a o e)
    obtain ⟨oa, hoa, _⟩ := id hla
    have hzr : zss = rows.take i := by
      refine eq_of_get ?_ fun j z e => ?_
      · rw [hzl, List.length_take]; omega
      · have : j < zss.length := (List.getElem?_eq_some_iff.mp e).1
        rw [List.getElem?_take, if_pos (by omega)]; exact hz j z e
    have hlen : zss.flatten.length + r.length ≤ sizeLine := by
      have e : rows = rows.take i ++ r :: rows.drop (i + 1) := by
        have h1 := List.take_append_drop i rows
        have h2 : rows.drop i = r :: rows.drop (i + 1) := by
          have hlt : i < rows.length := by omega
          rw [List.drop_eq_getElem_cons hlt]
          rw [List.getElem?_eq_getElem hlt] at hr
          rw [Option.some.inj hr]
        rw [h2] at h1; exact h1.symm
      have e2 : rows.flatten.length = (rows.take i).flatten.length + (r.length + (rows.drop (i + 1)).flatten.length) := by
        conv => lhs; rw [e]
        rw [List.flatten_append, List.length_append, List.flatten_cons, List.length_append]
      rw [hzr]; omega
    have ane : a ≠ h2.objs.size := Nat.ne_of_lt (Heap.lt_size (F2.keep _ _ hoa))
    have aC : a ≠ C := by rintro rfl; have := Heap.get?_none_of_le F.above; rw [hoa] at this; cases this
    refine wpAny_pyIter_list hla2 ?_
    have up : ∀ b o, h2.get? b = some o → (h2.push { cls := .type "list_iterator", data := .fields #[.ref a, .int 0 0] }).get? b = some o := fun b o e => Heap.get?_push_of_some _ e
    refine level_last (xs := [x1, x2]) (m := m2) (others := [(s₁.heap.objs.size, oJ)]) (ys := [] ++ zss.flatten) (n := r.toArray.size) (fun i y => r[i]? = some y) rfl rfl hkind hx2 (.tail _ (.head _)) (Walks.list hh h2.objs.size a ane r.toArray)
      (fun i h st => by obtain ⟨o, e, _⟩ := st.1; exact ⟨o, e⟩) (Ne.symm (Nat.ne_of_lt F2.ns.lt)) (next_is_new F2) (by intro hm; rcases List.mem_cons.mp hm with e | hm; exact (Nat.ne_of_lt F2.ns.lt) e; exact aC (List.mem_singleton.mp hm).symm)
      (by intro b hb; rcases List.mem_cons.mp hb with rfl | hb; exact .inl rfl; rw [List.mem_singleton.mp hb]; exact .inr (.inl ⟨_, hoa⟩)) ⟨⟨_, Heap.get?_push_size _ rfl, rfl, rfl⟩, hla2.push _⟩ (fun _ _ => rfl) (F2.keeps up) ?hN ?hDJ ?hO ?hsz ?hel ?post
    case hN =>
      intro p hp
      have hp' : p ∈ (s₁.heap.objs.size, oJ) :: (D, PySem.W.listOf ([] ++ zss.flatten).toArray ([] ++ zss.flatten).length) :: [] := by
        simp only [List.mem_cons, List.not_mem_nil, or_false] at hp ⊢; exact hp.symm
      exact (N2.grown up) p hp'
    case hDJ => exact Nat.ne_of_lt (Heap.lt_size (N2 _ (.tail _ (.head _))).1)
    case hO =>
      intro p hp
      rcases List.mem_singleton.mp hp with rfl
      exact ⟨Nat.ne_of_lt (Heap.lt_size (N2 _ (.head _)).1), Ne.symm hDJ⟩
    case hsz => rw [List.nil_append, List.size_toArray]; exact hlen
    case hel =>
      rintro i3 v3 m3 oJ3 ys3 h3 tk3 E3 hi3 hP3 ⟨ha3, hat3, F3, N3⟩
      exact cn_local F3 hx2 hat3 ⟨h3, tk3, rfl, F3, N3, by simpa using hP3⟩ hkind hd2
    case post =>
      intro h3 tk3 m3 zs hzl3 hz3 hm3 F3 N3
      refine ⟨h3, tk3, m3, zs, rfl, fun z hz' => (hm3 z hz').trans (ha z hz'), F3, fun p hp => N3 p ?_, ?_⟩
      · simp only [List.mem_cons, List.not_mem_nil, or_false] at hp ⊢; exact hp.symm
      · have e : zs = r := eq_of_get (by rw [hzl3, List.size_toArray]) hz3
        rw [e]; exact hr
end

end Mine
/-! B9 -/
namespace Mine
section
variable {h₀ h h' : Heap} {L : Addr} {m : Str → Option Value} {news : List (Addr × Obj)} {K : Frag}
abbrev hidden (h : Heap) (M : List (Addr × Obj)) : Heap := hideAll h (M.map (·.1))
theorem hidden_get {M : List (Addr × Obj)} {b : Addr} {o : Obj} (e : h.get? b = some o) (hb : b ∉ M.map (·.1)) : (hidden h M).get? b = some o := hideAll_get _ e hb
theorem hidden_keep {M : List (Addr × Obj)} (k : ∀ b o, h₀.get? b = some o → h.get? b = some o) (hM : ∀ p ∈ M, h₀.get? p.1 = none) : ∀ b o, h₀.get? b = some o → (hidden h M).get? b = some o := fun b o e =>
  hidden_get (k b o e) fun hb => by
    obtain ⟨p, hp, rfl⟩ := List.mem_map.mp hb
    rw [hM p hp] at e; cases e
/-- the caller's frame and ledger behind a call that changed the objects of M (to M') and made those of E -/
theorem back (M M' E : List (Addr × Obj)) (F : Fr h₀ L h m) (N : News h₀ L h news) (hM : ∀ p ∈ M, p ∈ news) (st : (hidden h M).StaysIn h') (hn : ∀ p ∈ M', h'.get? p.1 = some p.2) (hMM : ∀ p ∈ M', ∃ o, (p.1, o) ∈ M) (hE : ∀ p ∈ E, h'.get? p.1 = some p.2 ∧ h.get? p.1 = none)
    (news' : List (Addr × Obj)) (hs : ∀ p ∈ news', p ∈ M' ∨ p ∈ E ∨ (p ∈ news ∧ p.1 ∉ M.map (·.1))) : Fr h₀ L h' m ∧ News h₀ L h' news' := by
  have key : ∀ p ∈ M, p.1 ≠ L ∧ h₀.get? p.1 = none := fun p hp => (N _ (hM p hp)).2
  have up : ∀ b o, b ∉ M.map (·.1) → h.get? b = some o → h'.get? b = some o := fun b o hb e => st b o (hidden_get e hb)
  refine ⟨⟨F.ns.at' fun o e => up _ o (fun hm => ?_) e, fun b o e => up b o (fun hm => ?_) (F.keep b o e), F.above⟩, fun p hp => ?_⟩
  · obtain ⟨p, hp, e'⟩ := List.mem_map.mp hm
    exact (key p hp).1 e'
  · obtain ⟨p, hp, rfl⟩ := List.mem_map.mp hm
    rw [(key p hp).2] at e; cases e
  · rcases hs p hp with hp' | hp' | ⟨hp', hm⟩
    · obtain ⟨o, ho⟩ := hMM p hp'
      exact ⟨hn p hp', key (p.1, o) ho⟩
    · have z := hE p hp'
      refine ⟨z.1, fun e => ?_, ?_⟩
      · obtain ⟨o, _, _, eo, _⟩ := F.ns
        rw [← e, z.2] at eo; cases eo
      · cases q : h₀.get? p.1 with
        | none => rfl
        | some o => have := F.keep _ _ q; rw [z.2] at this; cases this
    · exact ⟨up _ _ hm (N p hp').1, (N p hp').2⟩
end
theorem enterM_news {s : Shared} {M : List (Addr × Obj)} (hM : ∀ p ∈ M, s.heap.get? p.1 = some p.2) : ∀ p ∈ M, s.heap.get? p.1 = some p.2 ∧ (hidden s.heap M).get? p.1 = none :=
  fun p hp => ⟨hM p hp, hideAll_none _ (List.mem_map.mpr ⟨p, hp, rfl⟩)⟩

end Mine
/-! T3 -/
namespace Mine
theorem fill2 : (PySem.Challenge.rw_wo0020_01 = PySem.Challenge.rw_wo0020_01) ∧ hd.heap_1 = hd.heap_1 := by
  k_fill
  exact ⟨rfl, rfl⟩
noncomputable def rulerOf (r : Int) : List Int :=
  List.take (4 - (r.fdiv 200).fmod 2).toNat [if r.fmod 8 = 7 then 0 else 1 + r.fmod 3, ([0, 1, 2, 3, 127] : List Int).getD ((r.fdiv 8).fmod 5).toNat 0, ([0, 1, 2, 3, 127] : List Int).getD ((r.fdiv 40).fmod 5).toNat 0, 0]

theorem c_ruler {prog : Program} {w : World} {A : Around} {s : Shared} {R : Result → Shared → Prop} {p : Program} {loose : List Str} {mg mb : Str → Option Value}
    (h1 : A.handled = none) (h2 : A.depth ≤ 700) (h3 : A.units ≤ 400)
    (X : (hd.heap_1 w.params).In s.heap) (T : TopRead p loose mg mb s.heap) {r : Int} {t : Tok} (hr : 0 ≤ r) (hr2 : r < 1000000000)
    (h : ∀ l h' tk vs, s.heap.StaysIn h' → s.heap.get? l = none → h'.get? l = some (W.listOf vs.toArray 0) → IntsAre vs (rulerOf r) → R (.ok (.ret (.ref l))) { s with heap := h', toks := tk }) :
    codeAny (model prog w) A (.call (.ref 156) ⟨[.int r t], []⟩) R s := by
  refine code_weak (d := 700) (u := 400) (by assumption) (by assumption) (by assumption) ?_
  refine' enter (by assumption) (TopRead.nolimit (by assumption)) (fun _ _ e => e) (Nat.le_refl _) (news := []) (fun _ hp => nomatch hp) ?ho ?hcd ?hroom ?hb ?hloc ?_ ?e1 ?e2 ?e3 ?e4
  (case ho => k_is); (case hcd => k_is); (case hroom => decide); (case hb => exact BindsTo.of_eq rfl); (case hloc => exact locs rfl)
  (case e1 => exact rfl); (case e2 => exact rfl); (case e3 => exact rfl); (case e4 => decide)
  intro L' h₁ F' N' hL'; (try dsimp only); k_fold
  refine hideQ ?_
  intro Qh hQh
  k_steps
  all_goals (try (with_reducible apply Hid.use; with_reducible assumption))
  all_goals (try dsimp only)
  all_goals (refine h _ _ _ _ (Fr.keep (by assumption)) (News.fresh (by assumption) (by k_mem)) (News.get (by assumption) (by k_mem)) ?_)
  · unfold rulerOf; rw [if_pos (by assumption)]; assumption
  · unfold rulerOf; rw [if_neg (by assumption)]; assumption

end Mine
section
namespace Mine
local macro_rules | `(tactic| walk_at "eval Name") => `(tactic| (
  (with_reducible show wpAny _ _ (eval (PySem.Expr.Name _ _) (compEnvC _ _ _ _)) _ _ _)
  k_dflt (first
  | (refine' cn_local ?F ?l ?v ?_ ?a ?b; (case l => decide +kernel); (case F => k_asm); (case a => rfl); (case b => decide); (case v => rfl); k_whole)
  | (refine' cn_cell ?F ?l ?ek ?e ?c ?o ?d ?_ ?a ?b; (case l => decide +kernel); (case F => k_asm); (case ek => rfl); (case e => rfl); (case a => rfl); (case b => decide); (case c => rfl); (case o => k_asm); (case d => k_asm); k_whole)
  | (refine' cn_global ?F ?l ?X ?T ?e ?_ ?g ?a ?b; (case l => decide +kernel); (case F => k_asm); (case X => k_asm); (case T => k_asm); (case e => k_is); (case g => rfl); (case a => rfl); (case b => decide); k_whole)
  | (refine' cn_built ?F ?l ?X ?T ?e ?v ?n ?_ ?g ?h ?a ?b; (case l => decide +kernel); (case F => k_asm); (case X => k_asm); (case T => k_asm); (case e => k_is); (case g => rfl); (case h => rfl); (case a => rfl); (case b => decide); (case v => boot_fast); (case n => decide); k_whole))))
local macro_rules | `(tactic| k_ne) => `(tactic| (refine neN ?_; (try dsimp only); first | with_reducible assumption | exact Ne.symm (by with_reducible assumption)))
local macro_rules | `(tactic| walk_at "m_ints") => `(tactic| first | with_reducible assumption | exact IntsAre.nil | exact IntsAre.cons _ _ (by walk_at "m_ints") | exact IntsAre.append (by walk_at "m_ints") (by walk_at "m_ints") | assumption)
local macro_rules | `(tactic| walk_at "m_size") => `(tactic| (rw [PySem.sizeLine_eq]; (try simp only [List.length_append, List.length_cons, List.length_nil, List.length_replicate]); omega))
local macro_rules | `(tactic| walk_at "binaryOp RShift int int") => `(tactic| (with_reducible refine rshift_int (by k_dflt omega) ?_))
local macro_rules | `(tactic| walk_at "binaryOp Add ref ref") => `(tactic| ((with_reducible show wpAny _ _ (binaryOp PySem.Operator.Add (Value.ref _) (Value.ref _)) _ _ _); k_dflt (refine' add_lists_ints ?F ?N ?a ?b ?ia ?ib ?_ ?sz; (case F => k_asm); (case N => k_asm); (case a => is_list); (case b => is_list); (case ia => walk_at "m_ints"); (case ib => walk_at "m_ints"); (case sz => walk_at "m_size"); k_whole); intro h' F' N' hI'; (try k_sweep)))
local macro_rules | `(tactic| walk_at "m_bound") => `(tactic| with_reducible first | assumption | exact Nat.le_of_eq (by assumption) | exact one_B | (refine' app_B ?_ ?_ <;> walk_at "m_bound") | exact Nat.le_of_eq bs_len | exact Nat.le_of_eq qt_len)
local macro_rules | `(tactic| walk_at "binaryOp Add str str") => `(tactic| ((with_reducible show wpAny _ _ (binaryOp PySem.Operator.Add (Value.str _ _) (Value.str _ _)) _ _ _); k_dflt (refine' add_B ?ba ?bb ?bs ?_; (case ba => walk_at "m_bound"); (case bb => walk_at "m_bound"); (case bs => exact rfl)); intro _ _))
local macro_rules | `(tactic| walk_at "inplaceOp Add str str") => `(tactic| ((with_reducible show wpAny _ _ (inplaceOp PySem.Operator.Add (Value.str _ _) (Value.str _ _)) _ _ _); k_dflt (refine' iadd_B ?ba ?bb ?bs ?_; (case ba => walk_at "m_bound"); (case bb => walk_at "m_bound"); (case bs => exact rfl)); intro _ _))
local macro_rules | `(tactic| walk_at "compareOp In str str") => `(tactic| ((with_reducible show wpAny _ _ (compareOp PySem.CmpOp.In (Value.str _ _) (Value.str _ _)) _ _ _); k_dflt (refine in_char ?_)))
local macro_rules | `(tactic| walk_at "call builtin:list.append") => `(tactic| ((with_reducible show wpAny _ _ (call (Value.builtin _) [Value.ref _, _]) _ _ _); k_dflt (refine' append_L ?k1 ?k2 ?k3 ?_ ?z; (case k1 => k_asm); (case k2 => k_asm); (case k3 => k_upd); (case z => (rw [PySem.sizeLine_eq]; omega)); k_whole); intro h' F' N'; (try k_sweep)))

/-! C_spelled -/
section
abbrev Es := List (Bool × Nat)
noncomputable def enc (es : Es) : List Nat := es.flatMap fun e => if e.1 then [92, e.2] else [e.2]
noncomputable def plain (es : Es) : List Nat := es.map (·.2)
structure Piece where
  q : Bool
  es : Es
  sep : Nat
noncomputable def Piece.text (p : Piece) : List Nat := if p.q then 34 :: (enc p.es ++ [34, p.sep]) else enc p.es ++ [p.sep]
noncomputable def White (c : Nat) : Prop := c = 10 ∨ c = 9 ∨ c = 13 ∨ c = 32
noncomputable def QOk (es : Es) : Prop := ∀ e ∈ es, e.1 = false → e.2 ≠ 34 ∧ e.2 ≠ 92
noncomputable def BOk (es : Es) : Prop := (∀ e ∈ es, e.1 = false → e.2 ≠ 92 ∧ ¬ White e.2) ∧ (∀ e r, es = e :: r → e.1 = false → e.2 ≠ 34)
structure Piece.Ok (p : Piece) : Prop where
  sep : White p.sep
  quoted : p.q = true → QOk p.es
  bare : p.q = false → BOk p.es ∧ p.es ≠ []
noncomputable def textOf (ps : List Piece) : List Nat := ps.flatMap Piece.text
theorem enc_snoc (es : Es) (e : Bool × Nat) : enc (es ++ [e]) = enc es ++ (if e.1 then [92, e.2] else [e.2]) := by
  unfold enc; rw [List.flatMap_append]; simp
theorem cps_app (a b : Str) : (a ++ b).cps.toList = a.cps.toList ++ b.cps.toList := by
  rw [PySem.Str.cps_append, Array.toList_append]
theorem bs_cps : (Str.ofString "\\").cps.toList = [92] := by decide +kernel
theorem qt_cps : (Str.ofString "\"").cps.toList = [34] := by decide +kernel
theorem enc_esc {U : Str} {es : Es} {c : Nat} (h : U.cps.toList = enc es) : (U ++ (Str.ofString "\\" ++ ⟨#[c]⟩)).cps.toList = enc (es ++ [(true, c)]) := by
  rw [enc_snoc, cps_app, cps_app, bs_cps, h]; rfl
theorem enc_esc' {U : Str} {es : Es} {c : Nat} (h : U.cps.toList = enc es) : ((U ++ Str.ofString "\\") ++ ⟨#[c]⟩).cps.toList = enc (es ++ [(true, c)]) := by
  rw [enc_snoc, cps_app, cps_app, bs_cps, h, List.append_assoc]; rfl
theorem enc_raw {U : Str} {es : Es} {c : Nat} (h : U.cps.toList = enc es) : (U ++ ⟨#[c]⟩).cps.toList = enc (es ++ [(false, c)]) := by
  rw [enc_snoc, cps_app, h]; rfl
theorem plain_snoc {X : Str} {es : Es} {j c : Nat} {b : Bool} (h : plain es = X.cps.toList.take j) (hc : X.cps[j]? = some c) : plain (es ++ [(b, c)]) = X.cps.toList.take (j + 1) := by
  unfold plain at h ⊢
  rw [List.map_append, h, List.take_add_one, Array.getElem?_toList, hc]; rfl
theorem q_mem {c : Nat} : c ∈ (Str.ofString "\"\\").cps.toList ↔ c = 34 ∨ c = 92 := by
  have e : (Str.ofString "\"\\").cps.toList = [34, 92] := by decide +kernel
  rw [e]; simp
theorem w_mem {c : Nat} : c ∈ (Str.ofString "\\\n\t\r ").cps.toList ↔ c = 92 ∨ White c := by
  have e : (Str.ofString "\\\n\t\r ").cps.toList = [92, 10, 9, 13, 32] := by decide +kernel
  rw [e]; simp [White]
theorem qok_esc {es : Es} {c : Nat} (h : QOk es) : QOk (es ++ [(true, c)]) := by
  intro e he hf
  rcases List.mem_append.mp he with he | he
  · exact h e he hf
  · rcases List.mem_singleton.mp he with rfl; cases hf
theorem qok_raw {es : Es} {c : Nat} (h : QOk es) (hc : ¬ (c = 34 ∨ c = 92)) : QOk (es ++ [(false, c)]) := by
  intro e he hf
  rcases List.mem_append.mp he with he | he
  · exact h e he hf
  · rcases List.mem_singleton.mp he with rfl; exact ⟨fun q => hc (.inl q), fun q => hc (.inr q)⟩
theorem sep_is {k : Int} (h0 : 0 ≤ k) (h1 : k < 4) : ∃ c, White c ∧ Txt.item (Str.ofString "\n\t\r ") k = ⟨#[c]⟩ := by
  have : k = 0 ∨ k = 1 ∨ k = 2 ∨ k = 3 := by omega
  rcases this with rfl | rfl | rfl | rfl
  · exact ⟨10, .inl rfl, by decide +kernel⟩
  · exact ⟨9, .inr (.inl rfl), by decide +kernel⟩
  · exact ⟨13, .inr (.inr (.inl rfl)), by decide +kernel⟩
  · exact ⟨32, .inr (.inr (.inr rfl)), by decide +kernel⟩
theorem take_full (Y : Str) : Y.cps.toList.take Y.length = Y.cps.toList := List.take_of_length_le (Nat.le_of_eq Array.length_toList)
theorem empty_len {Y : Str} (h : plain [] = Y.cps.toList) : Y.length = 0 := by
  have := congrArg List.length h
  rw [Array.length_toList] at this
  exact this.symm
theorem text_snoc (ps : List Piece) (p : Piece) : textOf (ps ++ [p]) = textOf ps ++ p.text := by unfold textOf; rw [List.flatMap_append]; simp
theorem text_q {Tx U it : Str} {ps : List Piece} {es : Es} {c : Nat} (h : Tx.cps.toList = textOf ps) (hU : U.cps.toList = enc es) (hi : it = ⟨#[c]⟩) :
    ((Tx ++ ((Str.ofString "\"" ++ U) ++ Str.ofString "\"")) ++ it).cps.toList = textOf (ps ++ [⟨true, es, c⟩]) := by
  subst hi
  rw [text_snoc, cps_app, cps_app, cps_app, cps_app, qt_cps, h, hU]
  simp [Piece.text]
theorem text_b {Tx U it : Str} {ps : List Piece} {es : Es} {c : Nat} (h : Tx.cps.toList = textOf ps) (hU : U.cps.toList = enc es) (hi : it = ⟨#[c]⟩) :
    ((Tx ++ U) ++ it).cps.toList = textOf (ps ++ [⟨false, es, c⟩]) := by
  subst hi
  rw [text_snoc, cps_app, cps_app, h, hU]
  simp [Piece.text]
theorem ok_snoc {ps : List Piece} {p : Piece} (h : ∀ p ∈ ps, p.Ok) (hp : p.Ok) : ∀ q ∈ ps ++ [p], q.Ok := by
  intro q hq
  rcases List.mem_append.mp hq with hq | hq
  · exact h q hq
  · rcases List.mem_singleton.mp hq with rfl; exact hp
theorem bok_esc {es : Es} {c : Nat} (h : BOk es) : BOk (es ++ [(true, c)]) := by
  refine ⟨fun e he hf => ?_, fun e r q hf => ?_⟩
  · rcases List.mem_append.mp he with he | he
    · exact h.1 e he hf
    · rcases List.mem_singleton.mp he with rfl; cases hf
  · cases es with
    | nil => cases q; cases hf
    | cons a b => cases q; exact h.2 _ _ rfl hf
theorem bok_raw {es : Es} {c : Nat} (h : BOk es) (hc : ¬ (c = 92 ∨ White c)) (hh : es = [] → c ≠ 34) : BOk (es ++ [(false, c)]) := by
  refine ⟨fun e he hf => ?_, fun e r q hf => ?_⟩
  · rcases List.mem_append.mp he with he | he
    · exact h.1 e he hf
    · rcases List.mem_singleton.mp he with rfl; exact ⟨fun z => hc (.inl z), fun z => hc (.inr z)⟩
  · cases es with
    | nil => cases q; exact hh rfl
    | cons a b => cases q; exact h.2 _ _ rfl hf
local macro_rules | `(tactic| walk_at "call builtin:len") => `(tactic| ((with_reducible show wpAny _ _ (call (Value.builtin "len") [Value.str _ _]) _ _ _); k_dflt (refine PyProof.Rows.len_str (by omega) ?_)))
local macro_rules | `(tactic| walk_at "subscriptTail") => `(tactic| ((with_reducible show wpAny _ _ (subscriptTail _ _ (Value.str _ _) (Value.int (Nat.cast _) _)) _ _ _); k_dflt (refine tail_char (by with_reducible assumption) (by omega) ?_)))
theorem hl_a {U : Str} {c j : Nat} (h : U.length ≤ 2 * j) : (U ++ (Str.ofString "\\" ++ ⟨#[c]⟩)).length ≤ 2 * (j + 1) := by
  have e1 := bs_len
  have e3 : (⟨#[c]⟩ : Str).length = 1 := rfl
  simp only [PySem.Str.length_append]; omega
theorem hl_b {U : Str} {c j : Nat} (h : U.length ≤ 2 * j) : (U ++ (⟨#[c]⟩ : Str)).length ≤ 2 * (j + 1) := by
  have e3 : (⟨#[c]⟩ : Str).length = 1 := rfl
  simp only [PySem.Str.length_append]; omega
theorem c_spelled {prog : Program} {w : World} {A : Around} {s : Shared} {R : Result → Shared → Prop} {p : Program} {loose : List Str} {mg mb : Str → Option Value}
    (h1 : A.handled = none) (h2 : A.depth ≤ 700) (h3 : A.units ≤ 400)
    (X : (hd.heap_1 w.params).In s.heap) (T : TopRead p loose mg mb s.heap) {l : Addr} {vs : List Value} {ws : List Str} {turn : Int} {t : Tok} (hl : s.heap.IsList l vs.toArray) (hi : StrsAre vs ws) (hlen : ws.length ≤ 21) (hws : ∀ x ∈ ws, 0 < x.length ∧ x.length ≤ 20) (h0 : 0 ≤ turn) (h9 : turn < 1000000000)
    (h : ∀ T u h' tk ps, s.heap.StaysIn h' → T.cps.toList = textOf ps → (∀ p ∈ ps, p.Ok) → ps.map (fun p => plain p.es) = ws.map (fun x => x.cps.toList) → T.length ≤ 21 * 64 → R (.ok (.ret (.str T u))) { s with heap := h', toks := tk }) :
    codeAny (model prog w) A (.call (.ref 142) ⟨[.ref l, .int turn t], []⟩) R s := by
  refine code_weak (d := 700) (u := 400) (by assumption) (by assumption) (by assumption) ?_
  refine' enter (by assumption) (TopRead.nolimit (by assumption)) (fun _ _ e => e) (Nat.le_refl _) (news := []) (fun _ hp => nomatch hp) ?ho ?hcd ?hroom ?hb ?hloc ?_ ?e1 ?e2 ?e3 ?e4
  (case ho => k_is); (case hcd => k_is); (case hroom => decide); (case hb => exact BindsTo.of_eq rfl); (case hloc => exact locs rfl)
  (case e1 => exact rfl); (case e2 => exact rfl); (case e3 => exact rfl); (case e4 => decide)
  intro L' h₁ F' N' hL'; (try dsimp only); (show wpAny _ _ _ _ _ _); k_fold
  ((try ((with_reducible show wpAny _ _ (execs _ _) _ _ _); (fail_if_success (with_reducible show wpAny _ _ _ Qh _ _)); refine hideQ ?_; intro Qh hQh)); repeat' ((fail_if_success (with_reducible show wpAny _ _ (exec (PySem.Stmt.Assign _ (PySem.Expr.ListComp _ _ _ _) _) _) _ _ _)); (fail_if_success (with_reducible show wpAny _ _ (exec (PySem.Stmt.For _ _ _ _ _) _) _ _ _)); (fail_if_success (with_reducible show wpAny _ _ (eval (PySem.Expr.ListComp _ _ _ _) _) _ _ _)); (first | walk1 | (dsimp only; walk1) | (with_reducible apply Hid.use; with_reducible assumption))))
  refine For_ ?_
  ((try ((with_reducible show wpAny _ _ (execs _ _) _ _ _); (fail_if_success (with_reducible show wpAny _ _ _ Qh _ _)); refine hideQ ?_; intro Qh hQh)); repeat' ((fail_if_success (with_reducible show wpAny _ _ (exec (PySem.Stmt.Assign _ (PySem.Expr.ListComp _ _ _ _) _) _) _ _ _)); (fail_if_success (with_reducible show wpAny _ _ (exec (PySem.Stmt.For _ _ _ _ _) _) _ _ _)); (fail_if_success (with_reducible show wpAny _ _ (eval (PySem.Expr.ListComp _ _ _ _) _) _ _ _)); (first | walk1 | (dsimp only; walk1) | (with_reducible apply Hid.use; with_reducible assumption))))
  (try (with_reducible apply Hid.use; with_reducible assumption)); (try dsimp only)
  rename Fr _ _ _ _ => F1
  rename News _ _ _ _ => N1
  rename IsRange _ _ _ _ _ _ _ _ => hr
  refine for_range (n := ws.length)
    (fun i m news => news = [] ∧ Ex3 fun T tt ps => A5 (T.cps.toList = textOf ps) ((∀ p ∈ ps, p.Ok)) (ps.map (fun p => plain p.es) = (ws.take i).map (fun x => x.cps.toList)) (T.length ≤ i * 64) (gotN m [((PySem.Str.ofString "words"), Value.ref l), ((PySem.Str.ofString "turn"), Value.int turn t), ((PySem.Str.ofString "text"), Value.str T tt)] = wantN [((PySem.Str.ofString "words"), Value.ref l), ((PySem.Str.ofString "turn"), Value.int turn t), ((PySem.Str.ofString "text"), Value.str T tt)]))
    rfl F1 N1 hr ?_ ?_ ?_ ?_ ?_
  · exact rsmall _ (by omega)
  · exact rsize _
  · refine ⟨rfl, Str.ofString "", ?tt, [], by decide +kernel, (by intro p hp; cases hp), rfl, by decide +kernel, ?hm⟩
    case hm =>
      rfl
  · rintro i tv m news I oI g tk E' hi' ⟨rfl, Tx, tt, ps, hT, hps, hmap, hTl, hm⟩ F2 N2 ha hfr
    clear F1 N1
    replace F2 := frNamesE _ F2 hm
    rw [Int.zero_add] at F2
    have hm2 : (0 : Int) ≤ ((i : Int) + turn).fmod 2 ∧ ((i : Int) + turn).fmod 2 < 2 := ⟨Int.fmod_nonneg_of_pos _ (by decide), Int.fmod_lt_of_pos _ (by decide)⟩
    have hm4 : (0 : Int) ≤ (((i : Int) + turn).fdiv 2).fmod 4 ∧ (((i : Int) + turn).fdiv 2).fmod 4 < 4 := ⟨Int.fmod_nonneg_of_pos _ (by decide), Int.fmod_lt_of_pos _ (by decide)⟩
    have hgi : ws.getD (i : Int).toNat Str.empty ∈ ws := by
      rw [Int.toNat_natCast, List.getD_eq_getElem?_getD, List.getElem?_eq_getElem hi']; exact List.getElem_mem hi'
    have hxl := hws _ hgi
    have hT1 : Tx.length ≤ 1344 := by omega
    have htk : (ws.take (i + 1)).map (fun x => x.cps.toList) = (ws.take i).map (fun x => x.cps.toList) ++ [(ws.getD (i : Int).toNat Str.empty).cps.toList] := by
      rw [List.take_add_one, List.map_append, List.getElem?_eq_getElem hi', Int.toNat_natCast, List.getD_eq_getElem?_getD, List.getElem?_eq_getElem hi']; rfl
    ((try ((with_reducible show wpAny _ _ (execs _ _) _ _ _); (fail_if_success (with_reducible show wpAny _ _ _ Qh _ _)); refine hideQ ?_; intro Qh hQh)); repeat' ((fail_if_success (with_reducible show wpAny _ _ (exec (PySem.Stmt.Assign _ (PySem.Expr.ListComp _ _ _ _) _) _) _ _ _)); (fail_if_success (with_reducible show wpAny _ _ (exec (PySem.Stmt.For _ _ _ _ _) _) _ _ _)); (fail_if_success (with_reducible show wpAny _ _ (eval (PySem.Expr.ListComp _ _ _ _) _) _ _ _)); (first | walk1 | (dsimp only; walk1) | (with_reducible apply Hid.use; with_reducible assumption))))
    all_goals (try dsimp only)
    · refine For_ ?_
      ((try ((with_reducible show wpAny _ _ (execs _ _) _ _ _); (fail_if_success (with_reducible show wpAny _ _ _ Qh _ _)); refine hideQ ?_; intro Qh hQh)); repeat' ((fail_if_success (with_reducible show wpAny _ _ (exec (PySem.Stmt.Assign _ (PySem.Expr.ListComp _ _ _ _) _) _) _ _ _)); (fail_if_success (with_reducible show wpAny _ _ (exec (PySem.Stmt.For _ _ _ _ _) _) _ _ _)); (fail_if_success (with_reducible show wpAny _ _ (eval (PySem.Expr.ListComp _ _ _ _) _) _ _ _)); (first | walk1 | (dsimp only; walk1) | (with_reducible apply Hid.use; with_reducible assumption))))
      (try (with_reducible apply Hid.use; with_reducible assumption)); (try dsimp only)
      rename Fr _ _ _ _ => F1
      rename News _ _ _ _ => N1
      clear F2 N2
      generalize ws.getD (i : Int).toNat Str.empty = Y at *
      refine for_str (fun j m news => news = [(I, oI)] ∧ Ex4 fun U tu es th => A5 (U.cps.toList = enc es) (plain es = Y.cps.toList.take j) (QOk es) (U.length ≤ 2 * j) (gotN m [((PySem.Str.ofString "words"), Value.ref l), ((PySem.Str.ofString "turn"), Value.int turn t), ((PySem.Str.ofString "text"), Value.str Tx tt), ((PySem.Str.ofString "k"), Value.int (i : Int) tv), ((PySem.Str.ofString "half"), Value.int (((i : Int) + turn).fdiv 2) th), ((PySem.Str.ofString "inner"), Value.str U tu)] = wantN [((PySem.Str.ofString "words"), Value.ref l), ((PySem.Str.ofString "turn"), Value.int turn t), ((PySem.Str.ofString "text"), Value.str Tx tt), ((PySem.Str.ofString "k"), Value.int (i : Int) tv), ((PySem.Str.ofString "half"), Value.int (((i : Int) + turn).fdiv 2) th), ((PySem.Str.ofString "inner"), Value.str U tu)]))
        rfl F1 N1 ?_ ?_ ?_
      · refine ⟨rfl, Str.ofString "", ?tu, [], ?th, by decide +kernel, rfl, (by intro p hp; cases hp), by decide +kernel, ?hm⟩
        case hm =>
          rfl
      · rintro j c u m news J oJ g tk E' hc ⟨rfl, U, tu, es, th, hU, hpl, hok, hUl, hm⟩ F3 N3 ha3 hfr3
        replace F3 := frNamesE _ F3 hm
        clear F1 N1
        have hjl : j < Y.length := (Array.getElem?_eq_some_iff.mp hc).1
        have hU1 : U.length ≤ 40 := by omega
        have a1 : @Ne Nat I J := ha3 _ (.head _)
        ((try ((with_reducible show wpAny _ _ (execs _ _) _ _ _); (fail_if_success (with_reducible show wpAny _ _ _ Qh _ _)); refine hideQ ?_; intro Qh hQh)); repeat' ((fail_if_success (with_reducible show wpAny _ _ (exec (PySem.Stmt.Assign _ (PySem.Expr.ListComp _ _ _ _) _) _) _ _ _)); (fail_if_success (with_reducible show wpAny _ _ (exec (PySem.Stmt.For _ _ _ _ _) _) _ _ _)); (fail_if_success (with_reducible show wpAny _ _ (eval (PySem.Expr.ListComp _ _ _ _) _) _ _ _)); (first | walk1 | (dsimp only; walk1) | (with_reducible apply Hid.use; with_reducible assumption))))
        all_goals (try dsimp only)
        · refine Turn.next [(I, oI)] (by k_asm) (by k_asm) (fun p hp => by
            simp only [List.mem_cons, List.not_mem_nil, or_false] at hp ⊢; exact hp) (fun p hp => by
            simp only [List.mem_cons, List.not_mem_nil, or_false] at hp; rcases hp with rfl; exact a1) ⟨rfl, _, ?tu2, es ++ [(true, c)], th, enc_esc hU, plain_snoc hpl hc, qok_esc hok, ?hl, ?hm⟩
          case hl => first | exact hl_a hUl | exact hl_b hUl | exact hl_c hUl | (have e1 := bs_len; have e2 := qt_len; have e3 : (⟨#[c]⟩ : Str).length = 1 := rfl; simp only [PySem.Str.length_append]; omega)
          case hm =>
            rfl
        · refine Turn.next [(I, oI)] (by k_asm) (by k_asm) (fun p hp => by
            simp only [List.mem_cons, List.not_mem_nil, or_false] at hp ⊢; exact hp) (fun p hp => by
            simp only [List.mem_cons, List.not_mem_nil, or_false] at hp; rcases hp with rfl; exact a1) ⟨rfl, _, ?tu3, es ++ [(false, c)], th, enc_raw hU, plain_snoc hpl hc, qok_raw hok ?hq, ?hl, ?hm⟩
          case hq =>
            rename (¬ (c ∈ (Str.ofString _).cps.toList)) => q
            exact fun z => q (q_mem.mpr z)
          case hl => first | exact hl_a hUl | exact hl_b hUl | exact hl_c hUl | (have e1 := bs_len; have e2 := qt_len; have e3 : (⟨#[c]⟩ : Str).length = 1 := rfl; simp only [PySem.Str.length_append]; omega)
          case hm =>
            rfl
      · rintro m news g tk ⟨rfl, U, tu, es, th, hU, hpl, hok, hUl, hm⟩ F3 N3
        replace F3 := frNamesE' _ F3 hm
        clear F1 N1
        have hYs : Y.cps.size = Y.length := rfl
        have hU1 : U.length ≤ 40 := by omega
        obtain ⟨sc, hsw, hsi⟩ := sep_is hm4.1 hm4.2
        ((try ((with_reducible show wpAny _ _ (execs _ _) _ _ _); (fail_if_success (with_reducible show wpAny _ _ _ Qh _ _)); refine hideQ ?_; intro Qh hQh)); repeat' ((fail_if_success (with_reducible show wpAny _ _ (exec (PySem.Stmt.Assign _ (PySem.Expr.ListComp _ _ _ _) _) _) _ _ _)); (fail_if_success (with_reducible show wpAny _ _ (exec (PySem.Stmt.For _ _ _ _ _) _) _ _ _)); (fail_if_success (with_reducible show wpAny _ _ (eval (PySem.Expr.ListComp _ _ _ _) _) _ _ _)); (first | walk1 | (dsimp only; walk1) | (with_reducible apply Hid.use; with_reducible assumption))))
        (try (with_reducible apply Hid.use; with_reducible assumption)); (try dsimp only)
        refine Turn.next [] (by k_asm) (by k_asm) (fun p hp => by
          simp only [List.mem_cons, List.not_mem_nil, or_false] at hp ⊢; exact hp) (fun p hp => nomatch hp) ⟨rfl, _, ?tx1, ps ++ [⟨true, es, sc⟩], text_q hT hU hsi, ?hok, ?hmap, ?hl, ?hm⟩
        case hok => exact ok_snoc hps ⟨hsw, fun _ => hok, fun q => nomatch q⟩
        case hmap =>
          rw [htk, List.map_append, hmap, List.map_singleton, hpl, List.take_of_length_le (Nat.le_of_eq Array.length_toList : Y.cps.toList.length ≤ Y.cps.size)]
        case hl => (have e2 := qt_len; simp only [PySem.Str.length_append, hsi]; have e3 : (⟨#[sc]⟩ : Str).length = 1 := rfl; omega)
        case hm =>
          rfl
    · refine For_ ?_
      ((try ((with_reducible show wpAny _ _ (execs _ _) _ _ _); (fail_if_success (with_reducible show wpAny _ _ _ Qh _ _)); refine hideQ ?_; intro Qh hQh)); repeat' ((fail_if_success (with_reducible show wpAny _ _ (exec (PySem.Stmt.Assign _ (PySem.Expr.ListComp _ _ _ _) _) _) _ _ _)); (fail_if_success (with_reducible show wpAny _ _ (exec (PySem.Stmt.For _ _ _ _ _) _) _ _ _)); (fail_if_success (with_reducible show wpAny _ _ (eval (PySem.Expr.ListComp _ _ _ _) _) _ _ _)); (first | walk1 | (dsimp only; walk1) | (with_reducible apply Hid.use; with_reducible assumption))))
      (try (with_reducible apply Hid.use; with_reducible assumption)); (try dsimp only)
      rename Fr _ _ _ _ => F1
      rename News _ _ _ _ => N1
      clear F2 N2
      rename IsRange _ _ 0 (Int.ofNat (Str.length _)) _ _ _ _ => hr2
      refine for_range (n := (ws.getD (i : Int).toNat Str.empty).length)
        (fun j m news => news = [(I, oI)] ∧ Ex4 fun U tu es th => A5 (U.cps.toList = enc es) (plain es = (ws.getD (i : Int).toNat Str.empty).cps.toList.take j) (BOk es) (U.length ≤ 2 * j) (gotN m [((PySem.Str.ofString "words"), Value.ref l), ((PySem.Str.ofString "turn"), Value.int turn t), ((PySem.Str.ofString "text"), Value.str Tx tt), ((PySem.Str.ofString "k"), Value.int (i : Int) tv), ((PySem.Str.ofString "half"), Value.int (((i : Int) + turn).fdiv 2) th), ((PySem.Str.ofString "inner"), Value.str U tu)] = wantN [((PySem.Str.ofString "words"), Value.ref l), ((PySem.Str.ofString "turn"), Value.int turn t), ((PySem.Str.ofString "text"), Value.str Tx tt), ((PySem.Str.ofString "k"), Value.int (i : Int) tv), ((PySem.Str.ofString "half"), Value.int (((i : Int) + turn).fdiv 2) th), ((PySem.Str.ofString "inner"), Value.str U tu)]))
        rfl F1 N1 hr2 ?_ ?_ ?_ ?_ ?_
      · exact rsmall _ (by omega)
      · exact rsize _
      · refine ⟨rfl, Str.ofString "", ?tu4, [], ?th4, by decide +kernel, rfl, ⟨(by intro p hp; cases hp), (by intro e r q; cases q)⟩, by decide +kernel, ?hm⟩
        case hm =>
          rfl
      · rintro j tj m news J oJ g tk E' hj ⟨rfl, U, tu, es, th, hU, hpl, hok, hUl, hm⟩ F3 N3 ha3 hfr3
        replace F3 := frNamesE _ F3 hm
        rw [Int.zero_add] at F3
        clear F1 N1
        obtain ⟨c, hc⟩ : ∃ c, (ws.getD (i : Int).toNat Str.empty).cps[j]? = some c := ⟨_, Array.getElem?_eq_getElem hj⟩
        have hU1 : U.length ≤ 40 := by omega
        have a1 : @Ne Nat I J := ha3 _ (.head _)
        have hel : es.length = j := by
          have := congrArg List.length hpl
          unfold plain at this
          rw [List.length_map, List.length_take, Array.length_toList] at this
          exact this.trans (Nat.min_eq_left (Nat.le_of_lt hj))
        ((try ((with_reducible show wpAny _ _ (execs _ _) _ _ _); (fail_if_success (with_reducible show wpAny _ _ _ Qh _ _)); refine hideQ ?_; intro Qh hQh)); repeat' ((fail_if_success (with_reducible show wpAny _ _ (exec (PySem.Stmt.Assign _ (PySem.Expr.ListComp _ _ _ _) _) _) _ _ _)); (fail_if_success (with_reducible show wpAny _ _ (exec (PySem.Stmt.For _ _ _ _ _) _) _ _ _)); (fail_if_success (with_reducible show wpAny _ _ (eval (PySem.Expr.ListComp _ _ _ _) _) _ _ _)); (first | walk1 | (dsimp only; walk1) | (with_reducible apply Hid.use; with_reducible assumption))))
        all_goals (try dsimp only)
        iterate 3
          (refine Turn.next [(I, oI)] (by k_asm) (by k_asm) (fun p hp => by
            simp only [List.mem_cons, List.not_mem_nil, or_false] at hp ⊢; exact hp) (fun p hp => by
            simp only [List.mem_cons, List.not_mem_nil, or_false] at hp; rcases hp with rfl; exact a1) ⟨rfl, _, ?_, es ++ [(true, c)], th, enc_esc' hU, plain_snoc hpl hc, bok_esc hok, (by first | exact hl_a hUl | exact hl_b hUl | exact hl_c hUl | (have e1 := bs_len; have e2 := qt_len; have e3 : (⟨#[c]⟩ : Str).length = 1 := rfl; simp only [PySem.Str.length_append]; omega)), ?_⟩
           rotate_left
           rfl)
        all_goals
          (refine Turn.next [(I, oI)] (by k_asm) (by k_asm) (fun p hp => by
            simp only [List.mem_cons, List.not_mem_nil, or_false] at hp ⊢; exact hp) (fun p hp => by
            simp only [List.mem_cons, List.not_mem_nil, or_false] at hp; rcases hp with rfl; exact a1) ⟨rfl, _, ?_, es ++ [(false, c)], th, enc_raw hU, plain_snoc hpl hc, bok_raw hok ?_ ?_, (by first | exact hl_b hUl | exact hl_a hUl | exact hl_c hUl | (have e3 : (⟨#[c]⟩ : Str).length = 1 := rfl; simp only [PySem.Str.length_append]; omega)), ?_⟩
           rotate_left)
        all_goals first
          | (rfl)
          | (rename (¬ (c ∈ _)) => q
             exact fun z => q (w_mem.mpr z))
          | (intro ee cc
             have hj0 : j = 0 := by rw [← hel, ee]; rfl
             first
             | omega
             | (rename (¬ (Str.mk _ = Str.ofString _)) => q
                exact q (by rw [cc]; decide +kernel))
             | (rename ((Str.mk _ == Str.ofString _) = false) => q
                rw [cc] at q; exact absurd q (by decide +kernel)))
      · rintro m news g tk ⟨rfl, U, tu, es, th, hU, hpl, hok, hUl, hm⟩ F3 N3
        replace F3 := frNamesE' _ F3 hm
        clear F1 N1
        have hU1 : U.length ≤ 40 := by omega
        have hes : es ≠ [] := by
          rintro rfl
          rw [take_full] at hpl
          have e := empty_len hpl
          omega
        obtain ⟨sc, hsw, hsi⟩ := sep_is hm4.1 hm4.2
        ((try ((with_reducible show wpAny _ _ (execs _ _) _ _ _); (fail_if_success (with_reducible show wpAny _ _ _ Qh _ _)); refine hideQ ?_; intro Qh hQh)); repeat' ((fail_if_success (with_reducible show wpAny _ _ (exec (PySem.Stmt.Assign _ (PySem.Expr.ListComp _ _ _ _) _) _) _ _ _)); (fail_if_success (with_reducible show wpAny _ _ (exec (PySem.Stmt.For _ _ _ _ _) _) _ _ _)); (fail_if_success (with_reducible show wpAny _ _ (eval (PySem.Expr.ListComp _ _ _ _) _) _ _ _)); (first | walk1 | (dsimp only; walk1) | (with_reducible apply Hid.use; with_reducible assumption))))
        (try (with_reducible apply Hid.use; with_reducible assumption)); (try dsimp only)
        refine Turn.next [] (by k_asm) (by k_asm) (fun p hp => by
          simp only [List.mem_cons, List.not_mem_nil, or_false] at hp ⊢; exact hp) (fun p hp => nomatch hp) ⟨rfl, _, ?tx2, ps ++ [⟨false, es, sc⟩], text_b hT hU hsi, ?hok, ?hmap, ?hl, ?hm⟩
        case hok => exact ok_snoc hps ⟨hsw, fun q => (nomatch q), fun _ => ⟨hok, hes⟩⟩
        case hmap =>
          rw [htk, List.map_append, hmap, List.map_singleton, hpl, take_full]
        case hl => (simp only [PySem.Str.length_append, hsi]; have e3 : (⟨#[sc]⟩ : Str).length = 1 := rfl; omega)
        case hm =>
          rfl
  · rintro m news g tk ⟨rfl, Tx, tt, ps, hT, hps, hmap, hTl, hm⟩ F3 N3
    replace F3 := frNamesE' _ F3 hm
    clear F1 N1
    ((try ((with_reducible show wpAny _ _ (execs _ _) _ _ _); (fail_if_success (with_reducible show wpAny _ _ _ Qh _ _)); refine hideQ ?_; intro Qh hQh)); repeat' ((fail_if_success (with_reducible show wpAny _ _ (exec (PySem.Stmt.Assign _ (PySem.Expr.ListComp _ _ _ _) _) _) _ _ _)); (fail_if_success (with_reducible show wpAny _ _ (exec (PySem.Stmt.For _ _ _ _ _) _) _ _ _)); (fail_if_success (with_reducible show wpAny _ _ (eval (PySem.Expr.ListComp _ _ _ _) _) _ _ _)); (first | walk1 | (dsimp only; walk1) | (with_reducible apply Hid.use; with_reducible assumption))))
    (try (with_reducible apply Hid.use; with_reducible assumption)); (try dsimp only)
    refine h _ _ _ _ ps F3.keep hT hps ?_ (by omega)
    rw [hmap, List.take_of_length_le (Nat.le_refl _)]

end
/-! C_init -/
section
abbrev ent (w : World) (k : String) (t : Tok) (v : Value) : DictEntry := { hash := PyData.keyHash w.params (Str.ofString k), key := .str (Str.ofString k) t, val := v }
theorem c_init {prog : Program} {w : World} {A : Around} {s : Shared} {R : Result → Shared → Prop} {p : Program} {loose : List Str} {mg mb : Str → Option Value}
    (h1 : A.handled = none) (h2 : A.depth ≤ 700) (h3 : A.units ≤ 400) {x dx : Addr} {v : Value} (hM : ∀ p ∈ [(x, W.instObj 103 dx), (dx, W.dictOf [] 0)], s.heap.get? p.1 = some p.2) (X : (hd.heap_1 w.params).In (hidden s.heap [(x, W.instObj 103 dx), (dx, W.dictOf [] 0)])) (T : TopRead p loose mg mb (hidden s.heap [(x, W.instObj 103 dx), (dx, W.dictOf [] 0)])) (hne : dx < x)
    (h : ∀ h' tk pb t1 t2 t3 t4 tl tw, (hidden s.heap [(x, W.instObj 103 dx), (dx, W.dictOf [] 0)]).StaysIn h' →
      h'.get? dx = some (W.dictOf [ent w "lineno" t1 (.int 1 tl), ent w "instream" t2 v, ent w "whitespace" t3 (.str (Str.ofString "\n\t\r ") tw), ent w "pushback" t4 (.ref pb)] 4) → h'.get? x = some (W.instObj 103 dx) →
      s.heap.get? pb = none → h'.get? pb = some (W.listOf #[] 0) → R (.ok (.ret .none)) { s with heap := h', toks := tk }) :
    codeAny (model prog w) A (.call (.ref 79) ⟨[.ref x, v], []⟩) R s := by
  refine code_weak (d := 700) (u := 400) (by assumption) (by assumption) (by assumption) ?_
  refine' enter (by assumption) (TopRead.nolimit (by assumption)) (fun _ _ e => of_hideAll _ e) (Nat.le_of_eq (hideAll_size _ _)) (enterM_news hM) ?ho ?hcd ?hroom ?hb ?hloc ?_ ?e1 ?e2 ?e3 ?e4
  (case ho => k_is); (case hcd => k_is); (case hroom => decide); (case hb => exact BindsTo.of_eq rfl); (case hloc => exact locs rfl)
  (case e1 => exact rfl); (case e2 => exact rfl); (case e3 => exact rfl); (case e4 => decide)
  intro L' h₁ F' N' hL'; (try dsimp only); (show wpAny _ _ _ _ _ _); k_fold
  have a1 : @Ne Nat x dx := Nat.ne_of_gt hne
  have a2 : @LT.lt Nat _ dx x := hne
  ((try ((with_reducible show wpAny _ _ (execs _ _) _ _ _); (fail_if_success (with_reducible show wpAny _ _ _ Qh _ _)); refine hideQ ?_; intro Qh hQh)); repeat' ((fail_if_success (with_reducible show wpAny _ _ (exec (PySem.Stmt.Assign _ (PySem.Expr.ListComp _ _ _ _) _) _) _ _ _)); (fail_if_success (with_reducible show wpAny _ _ (exec (PySem.Stmt.For _ _ _ _ _) _) _ _ _)); (fail_if_success (with_reducible show wpAny _ _ (eval (PySem.Expr.ListComp _ _ _ _) _) _ _ _)); (first | walk1 | (dsimp only; walk1) | (with_reducible apply Hid.use; with_reducible assumption))))
  (try (with_reducible apply Hid.use; with_reducible assumption)); (try dsimp only)
  rename Fr _ _ _ _ => F1
  rename News _ _ _ _ => N1
  have z1 := N1.get (.head _)
  have z2 := N1.get (.tail _ (.head _))
  have z3 := N1.get (.tail _ (.tail _ (.head _)))
  have z4 := (N1 _ (.head _)).2.2
  refine h _ _ _ _ _ _ _ _ _ F1.keep z3 z2 ?_ z1
  rename (x < _ ∧ dx < _) => l1
  refine Classical.byContradiction fun q => ?_
  obtain ⟨o, e⟩ := Option.ne_none_iff_exists'.mp q
  rw [hidden_get e (by
    simp only [List.map_cons, List.map_nil, List.mem_cons, List.not_mem_nil, or_false]
    rintro (e | e)
    · exact (Nat.ne_of_gt l1.1) e
    · exact (Nat.ne_of_gt l1.2) e)] at z4
  cases z4
theorem mem2 {α : Type} {a b p : α} {l : List α} (h : p ∈ [a, b]) : p ∈ a :: b :: l := by
  simp only [List.mem_cons, List.not_mem_nil, or_false] at h ⊢
  rcases h with h | h
  · exact .inl h
  · exact .inr (.inl h)
theorem back_cls {h₀ h h' : Heap} {L : Addr} {m : Str → Option Value} {news : List (Addr × Obj)} {C x dx pb : Addr} {oD oP : Obj} (F : Fr h₀ L h m) (N : News h₀ L h ((x, W.instObj C dx) :: (dx, W.dictOf [] 0) :: news)) (l1 : ∀ p ∈ news, p.1 < dx) (l2 : dx < x)
    (st : (hidden h [(x, W.instObj C dx), (dx, W.dictOf [] 0)]).StaysIn h') (e1 : h'.get? dx = some oD) (e2 : h'.get? x = some (W.instObj C dx)) (e3 : h.get? pb = none) (e4 : h'.get? pb = some oP) :
    Fr h₀ L h' m ∧ News h₀ L h' ((pb, oP) :: (x, W.instObj C dx) :: (dx, oD) :: news) := by
  refine back [(x, W.instObj C dx), (dx, W.dictOf [] 0)] [(dx, oD), (x, W.instObj C dx)] [(pb, oP)] F N (fun p hp => mem2 hp) st (fun p hp => ?_) (fun p hp => ?_) (fun p hp => ?_) _ (fun p hp => ?_)
  · simp only [List.mem_cons, List.not_mem_nil, or_false] at hp
    rcases hp with rfl | rfl
    · exact e1
    · exact e2
  · simp only [List.mem_cons, List.not_mem_nil, or_false] at hp
    rcases hp with rfl | rfl
    · exact ⟨_, .tail _ (.head _)⟩
    · exact ⟨_, .head _⟩
  · rcases List.mem_singleton.mp hp with rfl; exact ⟨e4, e3⟩
  · rcases List.mem_cons.mp hp with h1 | hp
    · exact .inr (.inl (h1 ▸ .head _))
    · rcases List.mem_cons.mp hp with h1 | hp
      · exact .inl (h1 ▸ .tail _ (.head _))
      · rcases List.mem_cons.mp hp with h1 | hp
        · exact .inl (h1 ▸ .head _)
        · refine .inr (.inr ⟨.tail _ (.tail _ hp), fun hm => ?_⟩)
          have z := l1 p hp
          simp only [List.map_cons, List.map_nil, List.mem_cons, List.not_mem_nil, or_false] at hm
          rcases hm with e | e
          · exact Nat.lt_irrefl _ (Nat.lt_trans (e ▸ z) l2)
          · exact Nat.lt_irrefl _ (e ▸ z)

end
/-! C_sizes -/
section
noncomputable def hits (rs : List Int) (i : Nat) : List Int := ((List.range i).filter (fun k => rs.getD k 0 = 0 ∨ rs.getD k 0 = 127)).map (fun k : Nat => (k : Int))
theorem hits_succ (rs : List Int) (i : Nat) : hits rs (i + 1) = if rs.getD i 0 = 0 ∨ rs.getD i 0 = 127 then hits rs i ++ [(i : Int)] else hits rs i := by
  unfold hits
  rw [List.range_succ, List.filter_append, List.map_append]
  by_cases h : rs.getD i 0 = 0 ∨ rs.getD i 0 = 127
  · rw [if_pos h, List.filter_cons_of_pos (by simpa using h)]; rfl
  · rw [if_neg h, List.filter_cons_of_neg (by simpa using h)]; simp
theorem hits_len (rs : List Int) : ∀ i, (hits rs i).length ≤ i
  | 0 => Nat.le_refl _
  | i + 1 => by
    have := hits_len rs i
    rw [hits_succ]; split
    · rw [List.length_append]; simp only [List.length_cons, List.length_nil]; omega
    · omega
noncomputable def stopOf (rs : List Int) : Nat := rs.findIdx (fun x => decide (x = 0 ∨ x = 127))
theorem hits_head (rs : List Int) : ∀ i, i ≤ rs.length → (stopOf rs < i → ∃ r, hits rs i = (stopOf rs : Int) :: r) ∧ (i ≤ stopOf rs → hits rs i = [])
  | 0, _ => ⟨fun h => absurd h (Nat.not_lt_zero _), fun _ => rfl⟩
  | i + 1, h => by
    obtain ⟨h1, h2⟩ := hits_head rs i (by omega)
    have hg : rs.getD i 0 = rs[i] := by rw [List.getD_eq_getElem?_getD, List.getElem?_eq_getElem (by omega)]; rfl
    rw [hits_succ]
    refine ⟨fun q => ?_, fun q => ?_⟩
    · by_cases e : stopOf rs < i
      · obtain ⟨r, hr⟩ := h1 e
        rw [hr]; split
        · exact ⟨r ++ [(i : Int)], rfl⟩
        · exact ⟨r, rfl⟩
      · have e' : stopOf rs = i := by omega
        rw [h2 (by omega), if_pos, e']
        · exact ⟨[], rfl⟩
        · rw [hg]
          have hlt : stopOf rs < rs.length := by omega
          have := List.findIdx_getElem (w := hlt)
          simp only [decide_eq_true_eq] at this
          have e2 : rs.findIdx (fun x => decide (x = 0 ∨ x = 127)) = i := e'
          simp only [e2] at this
          exact this
    · rw [h2 (by omega), if_neg]
      rw [hg]
      have hlt : i < stopOf rs := by omega
      have := List.not_of_lt_findIdx hlt
      simpa using this
theorem stop_le (rs : List Int) : stopOf rs ≤ rs.length := List.findIdx_le_length
theorem stop_is (rs : List Int) : (hits rs rs.length ++ [(rs.length : Int)]).getD (Int.toNat 0) 0 = ((stopOf rs : Nat) : Int) := by
  obtain ⟨h1, h2⟩ := hits_head rs rs.length (Nat.le_refl _)
  by_cases e : stopOf rs < rs.length
  · obtain ⟨r, hr⟩ := h1 e
    rw [hr]; rfl
  · have e' : stopOf rs = rs.length := by have := stop_le rs; omega
    rw [h2 (by omega), e']; rfl
theorem any_hit {x : Int} : (([0, 127] : List Int).any fun y => y == x) = true ↔ (x = 0 ∨ x = 127) := by
  simp only [List.any_cons, List.any_nil, Bool.or_false, Bool.or_eq_true, beq_iff_eq]
  omega
noncomputable def sizesOf (rs : List Int) : List Int :=
  if (rs.drop (stopOf rs)).take 1 = [0] ∧ rs.take (stopOf rs) ≠ [] then
    (rs.take (stopOf rs) ++ (List.replicate 4 [(rs.take (stopOf rs)).getD (-1 + ((rs.take (stopOf rs)).length : Int)).toNat 0]).flatten).take 4
  else (rs.take (stopOf rs)).take 4
theorem zero_is (rs : List Int) : (List.take (min ((stopOf rs : Int) + 1).toNat rs.length - ((stopOf rs : Nat) : Int).toNat) (List.drop ((stopOf rs : Nat) : Int).toNat rs) = [0]) ↔ ((rs.drop (stopOf rs)).take 1 = [0]) := by
  have h := stop_le rs
  rw [Int.toNat_natCast]
  by_cases e : stopOf rs < rs.length
  · rw [show min ((stopOf rs : Int) + 1).toNat rs.length - stopOf rs = 1 from by omega]
  · rw [show List.drop (stopOf rs) rs = [] from List.drop_eq_nil_of_le (by omega)]; simp
theorem c_sizes {prog : Program} {w : World} {A : Around} {s : Shared} {R : Result → Shared → Prop} {p : Program} {loose : List Str} {mg mb : Str → Option Value}
    (h1 : A.handled = none) (h2 : A.depth ≤ 700) (h3 : A.units ≤ 400)
    (X : (hd.heap_1 w.params).In s.heap) (T : TopRead p loose mg mb s.heap) {l : Addr} {vs : List Value} {rs : List Int} (hl : s.heap.IsList l vs.toArray) (hi : IntsAre vs rs) (hlen : rs.length ≤ 4)
    (h : ∀ l h' tk vs, s.heap.StaysIn h' → s.heap.get? l = none → h'.get? l = some (W.listOf vs.toArray 0) → IntsAre vs (sizesOf rs) → R (.ok (.ret (.ref l))) { s with heap := h', toks := tk }) :
    codeAny (model prog w) A (.call (.ref 161) ⟨[.ref l], []⟩) R s := by
  refine code_weak (d := 700) (u := 400) (by assumption) (by assumption) (by assumption) ?_
  refine' enterC (by assumption) (TopRead.nolimit (by assumption)) (fun _ _ e => e) (Nat.le_refl _) (news := []) (fun _ hp => nomatch hp) ?ho ?hcd ?hroom ?hb ?hkind ?hnd ?_ ?e1 ?e2 ?e3
  (case ho => k_is); (case hcd => k_is); (case hroom => decide); (case hb => exact BindsTo.of_eq rfl); (case hkind => exact rfl); (case hnd => decide +kernel)
  (case e1 => exact rfl); (case e2 => exact rfl); (case e3 => exact rfl)
  intro L' h₁ tk' cells' F' N' Y' l1 hL'; (try k_lt l1); k_cells Y'; (try simp only [List.cons_append, List.nil_append] at N'); (try dsimp only); (show wpAny _ _ _ _ _ _); k_fold
  rename (_ = Data.cell _) => d1
  replace d1 : _ = Data.cell (some (Value.ref l)) := d1
  ((try ((with_reducible show wpAny _ _ (execs _ _) _ _ _); (fail_if_success (with_reducible show wpAny _ _ _ Qh _ _)); refine hideQ ?_; intro Qh hQh)); repeat' ((fail_if_success (with_reducible show wpAny _ _ (exec (PySem.Stmt.Assign _ (PySem.Expr.ListComp _ _ _ _) _) _) _ _ _)); (fail_if_success (with_reducible show wpAny _ _ (exec (PySem.Stmt.For _ _ _ _ _) _) _ _ _)); (fail_if_success (with_reducible show wpAny _ _ (eval (PySem.Expr.ListComp _ _ _ _) _) _ _ _)); (first | walk1 | (dsimp only; walk1) | (with_reducible apply Hid.use; with_reducible assumption))))
  refine Comp_ (by rfl) ?_
  ((try ((with_reducible show wpAny _ _ (execs _ _) _ _ _); (fail_if_success (with_reducible show wpAny _ _ _ Qh _ _)); refine hideQ ?_; intro Qh hQh)); repeat' ((fail_if_success (with_reducible show wpAny _ _ (exec (PySem.Stmt.Assign _ (PySem.Expr.ListComp _ _ _ _) _) _) _ _ _)); (fail_if_success (with_reducible show wpAny _ _ (exec (PySem.Stmt.For _ _ _ _ _) _) _ _ _)); (fail_if_success (with_reducible show wpAny _ _ (eval (PySem.Expr.ListComp _ _ _ _) _) _ _ _)); (first | walk1 | (dsimp only; walk1) | (with_reducible apply Hid.use; with_reducible assumption))))
  rename IsRange _ _ _ _ _ _ _ _ => hr
  rename Fr _ _ _ _ => F1
  rename News _ _ _ _ => N1
  dsimp only at hr
  have hc := N1.get (.head _)
  have hl1 := stays_list F1.keep hl
  have X1 := X.keeps F1.keep
  have T1 := T.keeps F1.keep
  refine comp_range (n := rs.length) (fun i ys news => news = [] ∧ IntsAre ys (hits rs i)) rfl hr ?_ ?_ ?_ ⟨rfl, .nil⟩ ?_ ?_
  rotate_left 3
  · rintro i tv ys news I C D oI g tk E' hi' ⟨rfl, hy⟩ F2 N2 ha hd
    refine tests_one ?_
    ((try ((with_reducible show wpAny _ _ (execs _ _) _ _ _); (fail_if_success (with_reducible show wpAny _ _ _ Qh _ _)); refine hideQ ?_; intro Qh hQh)); repeat' ((fail_if_success (with_reducible show wpAny _ _ (exec (PySem.Stmt.Assign _ (PySem.Expr.ListComp _ _ _ _) _) _) _ _ _)); (fail_if_success (with_reducible show wpAny _ _ (exec (PySem.Stmt.For _ _ _ _ _) _) _ _ _)); (fail_if_success (with_reducible show wpAny _ _ (eval (PySem.Expr.ListComp _ _ _ _) _) _ _ _)); (first | walk1 | (dsimp only; walk1) | (with_reducible apply Hid.use; with_reducible assumption))))
    refine CTest.intro [] (by k_asm) (by k_asm) (fun p hp => .tail _ hp) (fun _ hp => nomatch hp) ?_
    have e0 : (0 + (i : Int)).toNat = i := by omega
    rw [e0]
    split <;> rename_i hb
    · intro oI h tk E' F3 N3
      ((try ((with_reducible show wpAny _ _ (execs _ _) _ _ _); (fail_if_success (with_reducible show wpAny _ _ _ Qh _ _)); refine hideQ ?_; intro Qh hQh)); repeat' ((fail_if_success (with_reducible show wpAny _ _ (exec (PySem.Stmt.Assign _ (PySem.Expr.ListComp _ _ _ _) _) _) _ _ _)); (fail_if_success (with_reducible show wpAny _ _ (exec (PySem.Stmt.For _ _ _ _ _) _) _ _ _)); (fail_if_success (with_reducible show wpAny _ _ (eval (PySem.Expr.ListComp _ _ _ _) _) _ _ _)); (first | walk1 | (dsimp only; walk1) | (with_reducible apply Hid.use; with_reducible assumption))))
      refine CElt.intro [] (by k_asm) (by k_asm) (fun p hp => hp) (fun _ hp => nomatch hp) ⟨rfl, ?_⟩
      rw [hits_succ, if_pos (any_hit.mp hb), Int.zero_add]
      exact ints_snoc hy
    · refine ⟨rfl, ?_⟩
      rw [hits_succ, if_neg (fun q => hb (any_hit.mpr q))]
      exact hy
  · rintro D g tk ys news ⟨rfl, hy⟩ k hN _
    obtain ⟨F2, N2, o2⟩ := added F1 N1 k hN
    simp only [List.mem_cons, List.not_mem_nil, or_false, forall_eq, List.cons_append, List.nil_append] at N2 o2
    clear hN F1 N1
    have hhl := hits_len rs rs.length
    ((try ((with_reducible show wpAny _ _ (execs _ _) _ _ _); (fail_if_success (with_reducible show wpAny _ _ _ Qh _ _)); refine hideQ ?_; intro Qh hQh)); repeat' ((fail_if_success (with_reducible show wpAny _ _ (exec (PySem.Stmt.Assign _ (PySem.Expr.ListComp _ _ _ _) _) _) _ _ _)); (fail_if_success (with_reducible show wpAny _ _ (exec (PySem.Stmt.For _ _ _ _ _) _) _ _ _)); (fail_if_success (with_reducible show wpAny _ _ (eval (PySem.Expr.ListComp _ _ _ _) _) _ _ _)); (fail_if_success (with_reducible show wpAny _ _ (storeName _ _ _) _ _ _)); (first | walk1 | (dsimp only; walk1) | (with_reducible apply Hid.use; with_reducible assumption))))
    rw [stop_is]
    walk1
    ((try ((with_reducible show wpAny _ _ (execs _ _) _ _ _); (fail_if_success (with_reducible show wpAny _ _ _ Qh _ _)); refine hideQ ?_; intro Qh hQh)); repeat' ((fail_if_success (with_reducible show wpAny _ _ (exec (PySem.Stmt.Assign _ (PySem.Expr.ListComp _ _ _ _) _) _) _ _ _)); (fail_if_success (with_reducible show wpAny _ _ (exec (PySem.Stmt.For _ _ _ _ _) _) _ _ _)); (fail_if_success (with_reducible show wpAny _ _ (eval (PySem.Expr.ListComp _ _ _ _) _) _ _ _)); (fail_if_success (with_reducible show wpAny _ _ (subscriptTail _ (PySem.Expr.UnaryOp _ _ _) (Value.ref _) (Value.int _ _)) _ _ _)); (first | walk1 | (dsimp only; walk1) | (with_reducible apply Hid.use; with_reducible assumption))))
    rotate_left 1
    · rename (decide (_ = ([] : List Int)) = false) => hne
      have hne' := List.length_pos_iff.mpr (of_decide_eq_false hne)
      refine item_list_ints_negR (by is_list) (by assumption) (by decide) (by omega) (by decide) (fun t => ?_)
      ((try ((with_reducible show wpAny _ _ (execs _ _) _ _ _); (fail_if_success (with_reducible show wpAny _ _ _ Qh _ _)); refine hideQ ?_; intro Qh hQh)); repeat' ((fail_if_success (with_reducible show wpAny _ _ (exec (PySem.Stmt.Assign _ (PySem.Expr.ListComp _ _ _ _) _) _) _ _ _)); (fail_if_success (with_reducible show wpAny _ _ (exec (PySem.Stmt.For _ _ _ _ _) _) _ _ _)); (fail_if_success (with_reducible show wpAny _ _ (eval (PySem.Expr.ListComp _ _ _ _) _) _ _ _)); (first | walk1 | (dsimp only; walk1) | (with_reducible apply Hid.use; with_reducible assumption))))
      (try (with_reducible apply Hid.use; with_reducible assumption)); (try dsimp only)
      refine h _ _ _ _ (Fr.keep (by assumption)) (News.fresh (by assumption) (.head _)) (News.get (by assumption) (.head _)) ?_
      rename (_ = ([0] : List Int)) => h0
      unfold sizesOf
      rw [if_pos ⟨(zero_is rs).mp h0, fun q => of_decide_eq_false hne (by rw [Int.toNat_natCast]; exact q)⟩]
      simp only [Int.toNat_natCast] at *
      assumption
    · try dsimp only
      refine h _ _ _ _ (Fr.keep (by assumption)) (News.fresh (by assumption) (.head _)) (News.get (by assumption) (.head _)) ?_
      rename (¬ (_ = ([0] : List Int))) => h0
      unfold sizesOf
      rw [if_neg (fun q => h0 ((zero_is rs).mpr q.1))]
      simp only [Int.toNat_natCast] at *
      assumption
    · try dsimp only
      refine h _ _ _ _ (Fr.keep (by assumption)) (News.fresh (by assumption) (.head _)) (News.get (by assumption) (.head _)) ?_
      rename (decide (_ = ([] : List Int)) = true) => hne
      unfold sizesOf
      rw [if_neg (fun q => q.2 (by rw [← of_decide_eq_true hne, Int.toNat_natCast]))]
      simp only [Int.toNat_natCast] at *
      assumption
  · exact rsmall _ (by omega)
  · exact rsize _
  · rw [sizeLine_eq]; omega

end
/-! C_clause -/
section
noncomputable def litOf (tot : Int) (i : Nat) : Int := 253 + (tot + (i : Int)).fmod 3 + 3 * ((tot.fdiv 3).fdiv (2 ^ i)).fmod 2
noncomputable def clauseOf (tot : Int) (n : Nat) : List Int := (List.range n).map (litOf tot)
set_option maxHeartbeats 400000 in
theorem c_clause {prog : Program} {w : World} {A : Around} {s : Shared} {R : Result → Shared → Prop} {p : Program} {loose : List Str} {mg mb : Str → Option Value}
    (h1 : A.handled = none) (h2 : A.depth ≤ 700) (h3 : A.units ≤ 400)
    (X : (hd.heap_1 w.params).In s.heap) (T : TopRead p loose mg mb s.heap) {tot : Int} {t t2 : Tok} {n : Nat} (h0 : 0 ≤ tot) (h9 : tot < 1000000000) (hn : n ≤ 3)
    (h : ∀ l h' tk vs, s.heap.StaysIn h' → s.heap.get? l = none → h'.get? l = some (W.listOf vs.toArray vs.length) → IntsAre vs (clauseOf tot n) → R (.ok (.ret (.ref l))) { s with heap := h', toks := tk }) :
    codeAny (model prog w) A (.call (.ref 166) ⟨[.int tot t, .int (n : Int) t2], []⟩) R s := by
  refine code_weak (d := 700) (u := 400) (by assumption) (by assumption) (by assumption) ?_
  refine' enterC (by assumption) (TopRead.nolimit (by assumption)) (fun _ _ e => e) (Nat.le_refl _) (news := []) (fun _ hp => nomatch hp) ?ho ?hcd ?hroom ?hb ?hkind ?hnd ?_ ?e1 ?e2 ?e3
  (case ho => k_is); (case hcd => k_is); (case hroom => decide); (case hb => exact BindsTo.of_eq rfl); (case hkind => exact rfl); (case hnd => decide +kernel)
  (case e1 => exact rfl); (case e2 => exact rfl); (case e3 => exact rfl)
  intro L' h₁ tk' cells' F' N' Y' l1 hL'; (try k_lt l1); k_cells Y'; (try simp only [List.cons_append, List.nil_append] at N'); (try dsimp only); (show wpAny _ _ _ _ _ _); k_fold
  rename (_ = Data.cell _) => d1
  replace d1 : _ = Data.cell (some (Value.int tot t)) := d1
  ((try ((with_reducible show wpAny _ _ (execs _ _) _ _ _); (fail_if_success (with_reducible show wpAny _ _ _ Qh _ _)); refine hideQ ?_; intro Qh hQh)); repeat' ((fail_if_success (with_reducible show wpAny _ _ (exec (PySem.Stmt.Assign _ (PySem.Expr.ListComp _ _ _ _) _) _) _ _ _)); (fail_if_success (with_reducible show wpAny _ _ (exec (PySem.Stmt.For _ _ _ _ _) _) _ _ _)); (fail_if_success (with_reducible show wpAny _ _ (eval (PySem.Expr.ListComp _ _ _ _) _) _ _ _)); (first | walk1 | (dsimp only; walk1) | (with_reducible apply Hid.use; with_reducible assumption))))
  refine Comp_ (by rfl) ?_
  ((try ((with_reducible show wpAny _ _ (execs _ _) _ _ _); (fail_if_success (with_reducible show wpAny _ _ _ Qh _ _)); refine hideQ ?_; intro Qh hQh)); repeat' ((fail_if_success (with_reducible show wpAny _ _ (exec (PySem.Stmt.Assign _ (PySem.Expr.ListComp _ _ _ _) _) _) _ _ _)); (fail_if_success (with_reducible show wpAny _ _ (exec (PySem.Stmt.For _ _ _ _ _) _) _ _ _)); (fail_if_success (with_reducible show wpAny _ _ (eval (PySem.Expr.ListComp _ _ _ _) _) _ _ _)); (first | walk1 | (dsimp only; walk1) | (with_reducible apply Hid.use; with_reducible assumption))))
  rename IsRange _ _ _ _ _ _ _ _ => hr
  rename Fr _ _ _ _ => F1
  rename News _ _ _ _ => N1
  dsimp only at hr
  have hc := N1.get (.head _)
  have X1 := X.keeps F1.keep
  have T1 := T.keeps F1.keep
  refine comp_range (n := n) (fun i ys news => news = [] ∧ IntsAre ys (clauseOf tot i)) rfl hr ?_ ?_ ?_ ⟨rfl, .nil⟩ ?_ ?_
  rotate_left 3
  · rintro i tv ys news I C D oI g tk E' hi' ⟨rfl, hy⟩ F2 N2 ha hd
    refine tests_nil ?_
    refine CTest.intro [] F2 N2 (fun p hp => hp) (fun _ hp => nomatch hp) ?_
    rw [if_pos rfl]
    intro oI h tk E' F3 N3
    ((try ((with_reducible show wpAny _ _ (execs _ _) _ _ _); (fail_if_success (with_reducible show wpAny _ _ _ Qh _ _)); refine hideQ ?_; intro Qh hQh)); repeat' ((fail_if_success (with_reducible show wpAny _ _ (exec (PySem.Stmt.Assign _ (PySem.Expr.ListComp _ _ _ _) _) _) _ _ _)); (fail_if_success (with_reducible show wpAny _ _ (exec (PySem.Stmt.For _ _ _ _ _) _) _ _ _)); (fail_if_success (with_reducible show wpAny _ _ (eval (PySem.Expr.ListComp _ _ _ _) _) _ _ _)); (first | walk1 | (dsimp only; walk1) | (with_reducible apply Hid.use; with_reducible assumption))))
    (try (with_reducible apply Hid.use; with_reducible assumption)); (try dsimp only)
    refine CElt.intro [] (by k_asm) (by k_asm) (fun p hp => hp) (fun _ hp => nomatch hp) ⟨rfl, ?_⟩
    have e : clauseOf tot (i + 1) = clauseOf tot i ++ [litOf tot i] := by unfold clauseOf; rw [List.range_succ, List.map_append]; rfl
    have e2 : (0 + (i : Int)) = (i : Int) := Int.zero_add _
    rw [e, e2, Int.toNat_natCast]
    exact ints_snoc hy
  · rintro D g tk ys news ⟨rfl, hy⟩ k hN _
    obtain ⟨F2, N2, o2⟩ := added F1 N1 k hN
    (try (with_reducible apply Hid.use; with_reducible assumption)); (try dsimp only)
    exact h _ _ _ _ F2.keep (News.fresh N2 (.head _)) (News.get N2 (.head _)) hy
  · exact rsmall _ (by omega)
  · exact rsize _
  · rw [sizeLine_eq]; omega

end
/-! C_totals -/
section
theorem c_totals {prog : Program} {w : World} {A : Around} {s : Shared} {R : Result → Shared → Prop} {p : Program} {loose : List Str} {mg mb : Str → Option Value}
    (h1 : A.handled = none) (h2 : A.depth ≤ 700) (h3 : A.units ≤ 400)
    (X : (hd.heap_1 w.params).In s.heap) (T : TopRead p loose mg mb s.heap) {l : Addr} {vs : List Value} {ns : List Int} (hl : s.heap.IsList l vs.toArray) (hi : IntsAre vs ns) (hlen : ns.length ≤ 63)
    (h : ∀ l h' tk vs ts n, s.heap.StaysIn h' → s.heap.get? l = none → h'.get? l = some (W.listOf vs.toArray n) → IntsAre vs ts → ts.length = 5 → (∀ x ∈ ts, 0 ≤ x ∧ x ≤ 100000000) → R (.ok (.ret (.ref l))) { s with heap := h', toks := tk }) :
    codeAny (model prog w) A (.call (.ref 149) ⟨[.ref l], []⟩) R s := by
  refine code_weak (d := 700) (u := 400) (by assumption) (by assumption) (by assumption) ?_
  refine' enter (by assumption) (TopRead.nolimit (by assumption)) (fun _ _ e => e) (Nat.le_refl _) (news := []) (fun _ hp => nomatch hp) ?ho ?hcd ?hroom ?hb ?hloc ?_ ?e1 ?e2 ?e3 ?e4
  (case ho => k_is); (case hcd => k_is); (case hroom => decide); (case hb => exact BindsTo.of_eq rfl); (case hloc => exact locs rfl)
  (case e1 => exact rfl); (case e2 => exact rfl); (case e3 => exact rfl); (case e4 => decide)
  intro L' h₁ F' N' hL'; (try dsimp only); (show wpAny _ _ _ _ _ _); k_fold
  ((try ((with_reducible show wpAny _ _ (execs _ _) _ _ _); (fail_if_success (with_reducible show wpAny _ _ _ Qh _ _)); refine hideQ ?_; intro Qh hQh)); repeat' ((fail_if_success (with_reducible show wpAny _ _ (exec (PySem.Stmt.Assign _ (PySem.Expr.ListComp _ _ _ _) _) _) _ _ _)); (fail_if_success (with_reducible show wpAny _ _ (exec (PySem.Stmt.For _ _ _ _ _) _) _ _ _)); (fail_if_success (with_reducible show wpAny _ _ (eval (PySem.Expr.ListComp _ _ _ _) _) _ _ _)); (first | walk1 | (dsimp only; walk1) | (with_reducible apply Hid.use; with_reducible assumption))))
  refine For_ ?_
  ((try ((with_reducible show wpAny _ _ (execs _ _) _ _ _); (fail_if_success (with_reducible show wpAny _ _ _ Qh _ _)); refine hideQ ?_; intro Qh hQh)); repeat' ((fail_if_success (with_reducible show wpAny _ _ (exec (PySem.Stmt.Assign _ (PySem.Expr.ListComp _ _ _ _) _) _) _ _ _)); (fail_if_success (with_reducible show wpAny _ _ (exec (PySem.Stmt.For _ _ _ _ _) _) _ _ _)); (fail_if_success (with_reducible show wpAny _ _ (eval (PySem.Expr.ListComp _ _ _ _) _) _ _ _)); (first | walk1 | (dsimp only; walk1) | (with_reducible apply Hid.use; with_reducible assumption))))
  (try (with_reducible apply Hid.use; with_reducible assumption)); (try dsimp only)
  rename Fr _ _ _ _ => F1
  rename News _ _ _ _ => N1
  rename IntsAre _ (List.take _ _) => hI
  rename (_ < _) => hlt
  rename_i lT _ _ _ _ D ws _ hC _
  refine for_list (src := [(D, W.listOf ws.toArray 0)])
    (fun i m news => Ex4 fun vs ts n tp => A5 (news = [(D, W.listOf ws.toArray 0), (lT, W.listOf vs.toArray n)]) (IntsAre vs ts) (ts.length = 5) ((∀ x ∈ ts, 0 ≤ x ∧ x ≤ 11 + (i : Int) * 1000003)) (gotN m [((PySem.Str.ofString "place"), Value.int (i : Int) tp), ((PySem.Str.ofString "totals"), Value.ref lT)] = wantN [((PySem.Str.ofString "place"), Value.int (i : Int) tp), ((PySem.Str.ofString "totals"), Value.ref lT)]))
    rfl F1 N1 (.inr ⟨0, rfl⟩) ?_ ?_ ?_ ?_
  · rintro i m news ⟨vs, ts, n, tp, rfl, _⟩ p hp
    rcases List.mem_singleton.mp hp with rfl
    exact .head _
  · refine ⟨_, [0, 8, 4, 11, 1], 0, ?tp, rfl, ?hi, rfl, by decide, ?hm⟩
    case hi => walk_at "m_ints"
    case hm =>
      rfl
  · rintro i v m news I oI g tk E' hv ⟨vs, ts, n, tp, rfl, hts, h5, hb, hm⟩ F2 N2 ha hfr
    obtain ⟨a, t, rfl, ha2⟩ := hI.at i v (by simpa using hv)
    replace F2 := frNamesE _ F2 hm
    clear F1 N1
    have hb' : (0 : Int) ≤ a.fmod 1000003 ∧ a.fmod 1000003 < 1000003 := ⟨Int.fmod_nonneg_of_pos _ (by decide), Int.fmod_lt_of_pos _ (by decide)⟩
    have a1 : @Ne Nat D I := ha _ (.head _)
    have a2 : @Ne Nat lT I := ha _ (.tail _ (.head _))
    ((try ((with_reducible show wpAny _ _ (execs _ _) _ _ _); (fail_if_success (with_reducible show wpAny _ _ _ Qh _ _)); refine hideQ ?_; intro Qh hQh)); repeat' ((fail_if_success (with_reducible show wpAny _ _ (exec (PySem.Stmt.Assign _ (PySem.Expr.ListComp _ _ _ _) _) _) _ _ _)); (fail_if_success (with_reducible show wpAny _ _ (exec (PySem.Stmt.For _ _ _ _ _) _) _ _ _)); (fail_if_success (with_reducible show wpAny _ _ (eval (PySem.Expr.ListComp _ _ _ _) _) _ _ _)); (first | walk1 | (dsimp only; walk1) | (with_reducible apply Hid.use; with_reducible assumption))))
    (try (with_reducible apply Hid.use; with_reducible assumption)); (try dsimp only)
    have hm5 : (0 : Int) ≤ (i : Int).fmod 5 ∧ (i : Int).fmod 5 < 5 := ⟨Int.fmod_nonneg_of_pos _ (by decide), Int.fmod_lt_of_pos _ (by decide)⟩
    refine Turn.next [(D, W.listOf ws.toArray 0), (lT, _)] (by k_asm) (by k_asm) (fun p hp => by
      simp only [List.mem_cons, List.not_mem_nil, or_false] at hp ⊢; exact hp) (fun p hp => by
      simp only [List.mem_cons, List.not_mem_nil, or_false] at hp; rcases hp with rfl | rfl
      · exact a1
      · exact a2) ⟨_, _, _, ?tq, rfl, by assumption, by rw [List.length_set]; exact h5, ?hx, ?hp⟩
    case hx =>
      intro x hx
      have h1 := List.mem_or_eq_of_mem_set hx
      rcases h1 with h1 | rfl
      · have := hb x h1; omega
      · have hj : ((i : Int).fmod 5).toNat < ts.length := by omega
        have := hb _ (List.getElem_mem hj)
        rw [List.getD_eq_getElem?_getD, List.getElem?_eq_getElem hj]
        simp only [Option.getD_some]
        omega
    case hp =>
      rfl
  · rintro m news g tk ⟨vs, ts, n, tp, rfl, hts, h5, hb, hm⟩ F2 N2
    clear F1 N1
    replace F2 := frNamesE' _ F2 hm
    ((try ((with_reducible show wpAny _ _ (execs _ _) _ _ _); (fail_if_success (with_reducible show wpAny _ _ _ Qh _ _)); refine hideQ ?_; intro Qh hQh)); repeat' ((fail_if_success (with_reducible show wpAny _ _ (exec (PySem.Stmt.Assign _ (PySem.Expr.ListComp _ _ _ _) _) _) _ _ _)); (fail_if_success (with_reducible show wpAny _ _ (exec (PySem.Stmt.For _ _ _ _ _) _) _ _ _)); (fail_if_success (with_reducible show wpAny _ _ (eval (PySem.Expr.ListComp _ _ _ _) _) _ _ _)); (first | walk1 | (dsimp only; walk1) | (with_reducible apply Hid.use; with_reducible assumption))))
    (try (with_reducible apply Hid.use; with_reducible assumption)); (try dsimp only)
    refine h _ _ _ _ _ _ F2.keep (News.fresh N2 (.tail _ (.head _))) (News.get N2 (.tail _ (.head _))) hts h5 (fun x hx => ?_)
    have := hb x hx
    have e : ws.toArray.size ≤ 60 := by rw [List.size_toArray, hI.length, hC]; omega
    omega

end
/-! C_words -/
section
noncomputable def Port (v : Int) : Prop := v = 0 ∨ (253 ≤ v ∧ v ≤ 258)
noncomputable def shown (v : Int) : Str := Str.ofString (toString v)
theorem shown_len {v : Int} (h : Port v) : (shown v).length ≤ 3 := by
  rcases h with rfl | h
  · decide +kernel
  · have : v = 253 ∨ v = 254 ∨ v = 255 ∨ v = 256 ∨ v = 257 ∨ v = 258 := by omega
    rcases this with rfl | rfl | rfl | rfl | rfl | rfl <;> decide +kernel
theorem port_log {v : Int} (h : Port v) : v.natAbs.log2 < 1920 := by
  have h2 : v.natAbs ≤ 258 := by unfold Port at h; omega
  by_cases e : v.natAbs = 0
  · rw [e]; decide
  · exact (Nat.log2_lt e).mpr (Nat.lt_of_le_of_lt h2 (Nat.lt_of_lt_of_le (by decide : 258 < 2 ^ 9) (Nat.pow_le_pow_right (by decide) (by decide))))
noncomputable def marks : Str := Str.ofString "|!\"\\#"
noncomputable def WordFor (v : Int) (w : Str) : Prop := ∃ i j k : Int, 0 ≤ i ∧ i < 5 ∧ 0 ≤ j ∧ j < 3 ∧ 0 ≤ k ∧ k < 2 ∧
  w = (((((Txt.item marks i ++ Txt.mul (Str.ofString "6") j) ++ Txt.item marks i) ++ Txt.mul (Str.ofString "1") k) ++ Txt.item marks i) ++ shown v) ++ Txt.item marks i
local macro_rules | `(tactic| walk_at "call builtin:repr") => `(tactic| ((with_reducible show wpAny _ _ (call (Value.builtin "repr") [Value.int _ _]) _ _ _); k_dflt (refine P.repr_of_int (by with_reducible assumption) ?_)))
local macro_rules | `(tactic| walk_at "binaryOp Add ref ref") => `(tactic| ((with_reducible show wpAny _ _ (binaryOp PySem.Operator.Add (Value.ref _) (Value.ref _)) _ _ _); k_dflt (refine' add_lists ?F ?N ?a ?b ?_ ?sz; (case F => k_asm); (case N => k_asm); (case a => is_list); (case b => is_list); (case sz => walk_at "m_size"); k_whole); intro h' F' N'; (try k_sweep)))
theorem c_words {prog : Program} {w : World} {A : Around} {s : Shared} {R : Result → Shared → Prop} {p : Program} {loose : List Str} {mg mb : Str → Option Value}
    (h1 : A.handled = none) (h2 : A.depth ≤ 700) (h3 : A.units ≤ 400)
    (X : (hd.heap_1 w.params).In s.heap) (T : TopRead p loose mg mb s.heap) {l : Addr} {vs : List Value} {row : List Int} {turn : Int} {t : Tok} (hl : s.heap.IsList l vs.toArray) (hi : IntsAre vs row) (hlen : row.length ≤ 20) (hrow : ∀ x ∈ row, Port x) (h0 : 0 ≤ turn) (h9 : turn < 1000000000)
    (h : ∀ l h' tk vs (ws : List Str) n, s.heap.StaysIn h' → s.heap.get? l = none → h'.get? l = some (W.listOf vs.toArray n) → StrsAre vs (ws ++ [Str.ofString "end"]) → ws.length = row.length → (∀ (k : Nat) v u, row[k]? = some v → ws[k]? = some u → WordFor v u) → R (.ok (.ret (.ref l))) { s with heap := h', toks := tk }) :
    codeAny (model prog w) A (.call (.ref 173) ⟨[.ref l, .int turn t], []⟩) R s := by
  refine code_weak (d := 700) (u := 400) (by assumption) (by assumption) (by assumption) ?_
  refine' enter (by assumption) (TopRead.nolimit (by assumption)) (fun _ _ e => e) (Nat.le_refl _) (news := []) (fun _ hp => nomatch hp) ?ho ?hcd ?hroom ?hb ?hloc ?_ ?e1 ?e2 ?e3 ?e4
  (case ho => k_is); (case hcd => k_is); (case hroom => decide); (case hb => exact BindsTo.of_eq rfl); (case hloc => exact locs rfl)
  (case e1 => exact rfl); (case e2 => exact rfl); (case e3 => exact rfl); (case e4 => decide)
  intro L' h₁ F' N' hL'; (try dsimp only); (show wpAny _ _ _ _ _ _); k_fold
  ((try ((with_reducible show wpAny _ _ (execs _ _) _ _ _); (fail_if_success (with_reducible show wpAny _ _ _ Qh _ _)); refine hideQ ?_; intro Qh hQh)); repeat' ((fail_if_success (with_reducible show wpAny _ _ (exec (PySem.Stmt.Assign _ (PySem.Expr.ListComp _ _ _ _) _) _) _ _ _)); (fail_if_success (with_reducible show wpAny _ _ (exec (PySem.Stmt.For _ _ _ _ _) _) _ _ _)); (fail_if_success (with_reducible show wpAny _ _ (eval (PySem.Expr.ListComp _ _ _ _) _) _ _ _)); (first | walk1 | (dsimp only; walk1) | (with_reducible apply Hid.use; with_reducible assumption))))
  refine For_ ?_
  ((try ((with_reducible show wpAny _ _ (execs _ _) _ _ _); (fail_if_success (with_reducible show wpAny _ _ _ Qh _ _)); refine hideQ ?_; intro Qh hQh)); repeat' ((fail_if_success (with_reducible show wpAny _ _ (exec (PySem.Stmt.Assign _ (PySem.Expr.ListComp _ _ _ _) _) _) _ _ _)); (fail_if_success (with_reducible show wpAny _ _ (exec (PySem.Stmt.For _ _ _ _ _) _) _ _ _)); (fail_if_success (with_reducible show wpAny _ _ (eval (PySem.Expr.ListComp _ _ _ _) _) _ _ _)); (first | walk1 | (dsimp only; walk1) | (with_reducible apply Hid.use; with_reducible assumption))))
  (try (with_reducible apply Hid.use; with_reducible assumption)); (try dsimp only)
  rename Fr _ _ _ _ => F1
  rename News _ _ _ _ => N1
  rename IsRange _ _ _ _ _ _ _ _ => hr
  rename_i lT _ _ _ _ _ _ _ _ _ _ _
  refine for_range (n := row.length)
    (fun i m news => Ex3 fun vs ws n => A5 (news = [(lT, W.listOf vs.toArray n)]) (StrsAre vs ws) (ws.length = i) ((∀ (k : Nat) v u, row[k]? = some v → ws[k]? = some u → WordFor v u)) (gotN m [((PySem.Str.ofString "row"), Value.ref l), ((PySem.Str.ofString "turn"), Value.int turn t), ((PySem.Str.ofString "words"), Value.ref lT)] = wantN [((PySem.Str.ofString "row"), Value.ref l), ((PySem.Str.ofString "turn"), Value.int turn t), ((PySem.Str.ofString "words"), Value.ref lT)]))
    rfl F1 N1 hr ?_ ?_ ?_ ?_ ?_
  · exact rsmall _ (by omega)
  · exact rsize _
  · refine ⟨_, [], 0, rfl, .nil, rfl, fun k v u _ e => by simp at e, ?hm⟩
    rfl
  · rintro i tv m news I oI g tk E' hi' ⟨vs, ws, n, rfl, hw, hwl, hwf, hm⟩ F2 N2 ha hfr
    clear F1 N1
    replace F2 := frNamesE _ F2 hm
    have hb5 : (0 : Int) ≤ (turn + (i : Int)).fmod 5 ∧ (turn + (i : Int)).fmod 5 < 5 := ⟨Int.fmod_nonneg_of_pos _ (by decide), Int.fmod_lt_of_pos _ (by decide)⟩
    have hb3 : (0 : Int) ≤ (i : Int).fmod 3 ∧ (i : Int).fmod 3 < 3 := ⟨Int.fmod_nonneg_of_pos _ (by decide), Int.fmod_lt_of_pos _ (by decide)⟩
    have hb2 : (0 : Int) ≤ (i : Int).fmod 2 ∧ (i : Int).fmod 2 < 2 := ⟨Int.fmod_nonneg_of_pos _ (by decide), Int.fmod_lt_of_pos _ (by decide)⟩
    rw [Int.zero_add] at F2
    have hgi : row.getD (i : Int).toNat 0 ∈ row := by
      rw [Int.toNat_natCast, List.getD_eq_getElem?_getD, List.getElem?_eq_getElem hi']; exact List.getElem_mem hi'
    have hvl : vs.length = i := hw.length.trans hwl
    have a2 : @Ne Nat lT I := ha _ (.head _)
    have hP := hrow _ hgi
    have hlg : (row.getD (i : Int).toNat 0).natAbs.log2 < 1920 := port_log hP
    have hsl : (Str.ofString (toString (row.getD (i : Int).toNat 0))).length ≤ 3 := shown_len hP
    have hm6 : (Txt.mul (Str.ofString "6") ((i : Int).fmod 3)).length ≤ 2 := len_mul_leN (L := 1) (N := 2) (by decide +kernel) (by have := hb3.2; omega)
    have hm1 : (Txt.mul (Str.ofString "1") ((i : Int).fmod 2)).length ≤ 1 := len_mul_leN (L := 1) (N := 1) (by decide +kernel) (by have := hb2.2; omega)
    have hit : (Txt.item (Str.ofString "|!\"\\#") ((turn + (i : Int)).fmod 5)).length ≤ 1 := Nat.le_of_eq rfl
    ((try ((with_reducible show wpAny _ _ (execs _ _) _ _ _); (fail_if_success (with_reducible show wpAny _ _ _ Qh _ _)); refine hideQ ?_; intro Qh hQh)); repeat' ((fail_if_success (with_reducible show wpAny _ _ (exec (PySem.Stmt.Assign _ (PySem.Expr.ListComp _ _ _ _) _) _) _ _ _)); (fail_if_success (with_reducible show wpAny _ _ (exec (PySem.Stmt.For _ _ _ _ _) _) _ _ _)); (fail_if_success (with_reducible show wpAny _ _ (eval (PySem.Expr.ListComp _ _ _ _) _) _ _ _)); (first | walk1 | (dsimp only; walk1) | (with_reducible apply Hid.use; with_reducible assumption))))
    (try (with_reducible apply Hid.use; with_reducible assumption)); (try dsimp only)
    refine Turn.next [(lT, _)] (by k_asm) (by k_asm) (fun p hp => by
      simp only [List.mem_cons, List.not_mem_nil, or_false] at hp ⊢; exact hp) (fun p hp => by
      simp only [List.mem_cons, List.not_mem_nil, or_false] at hp; rcases hp with rfl; exact a2) ⟨_, ws ++ [_], _, rfl, strs_snoc hw, by rw [List.length_append, hwl]; rfl, ?hx, ?hp⟩
    case hx =>
      intro k v u hk hu
      by_cases e : k < i
      · rw [List.getElem?_append_left (by omega)] at hu
        exact hwf k v u hk hu
      · have hlt : k < (ws ++ [_]).length := (List.getElem?_eq_some_iff.mp hu).1
        rw [List.length_append, List.length_cons, List.length_nil] at hlt
        have e2 : k = ws.length := by omega
        subst e2
        rw [List.getElem?_append_right (Nat.le_refl _), Nat.sub_self] at hu
        simp only [List.getElem?_cons_zero, Option.some.injEq] at hu
        subst hu
        have e3 : row.getD (i : Int).toNat 0 = v := by rw [Int.toNat_natCast, List.getD_eq_getElem?_getD, ← hwl, hk]; rfl
        rw [e3]
        exact ⟨_, _, _, hb5.1, hb5.2, hb3.1, hb3.2, hb2.1, hb2.2, rfl⟩
    case hp =>
      rfl
  · rintro m news g tk ⟨vs, ws, n, rfl, hw, hwl, hwf, hm⟩ F2 N2
    clear F1 N1
    replace F2 := frNamesE' _ F2 hm
    have hvl : vs.length = row.length := hw.length.trans hwl
    ((try ((with_reducible show wpAny _ _ (execs _ _) _ _ _); (fail_if_success (with_reducible show wpAny _ _ _ Qh _ _)); refine hideQ ?_; intro Qh hQh)); repeat' ((fail_if_success (with_reducible show wpAny _ _ (exec (PySem.Stmt.Assign _ (PySem.Expr.ListComp _ _ _ _) _) _) _ _ _)); (fail_if_success (with_reducible show wpAny _ _ (exec (PySem.Stmt.For _ _ _ _ _) _) _ _ _)); (fail_if_success (with_reducible show wpAny _ _ (eval (PySem.Expr.ListComp _ _ _ _) _) _ _ _)); (first | walk1 | (dsimp only; walk1) | (with_reducible apply Hid.use; with_reducible assumption))))
    (try (with_reducible apply Hid.use; with_reducible assumption)); (try dsimp only)
    rename Fr _ _ _ _ => F3
    rename News _ _ _ _ => N3
    refine h _ _ _ _ _ _ F3.keep (News.fresh N3 (.head _)) (News.get N3 (.head _)) (hw.append' (.cons _ _ .nil)) hwl hwf

end
/-! B10 -/
section
theorem enterX {prog : Program} {w : World} {A : Around} {s : Shared} {g : Heap} {news : List (Addr × Obj)}
    {R : Result → Shared → Prop} {name qual : Str} {params : Arguments} {body : List Stmt} {scope : Scope} {cl : List (Str × Addr)} {dV kV doc pm cdv ct : Value} {an : Option Addr} {fo : Obj} {f : Addr} {args : Args} {binds : List (Str × Value)}
    (hlim : g.NoLimit) (st : g.StaysIn s.heap) (sz : g.objs.size ≤ s.heap.objs.size) (N : ∀ p ∈ news, s.heap.get? p.1 = some p.2 ∧ g.get? p.1 = none)
    (ho : s.heap.get? f = some fo) (hd : fo.data = .func (fnX name qual params body scope cl dV kV doc pm an cdv ct)) (hcd : s.heap.CodeRec cdv qual) (hroom : A.depth < recursionLimit)
    (hbind : BindsTo s (fnX name qual params body scope cl dV kV doc pm an cdv ct) args binds) (hloc : ∀ y ∈ binds, scope.names.lookup y.1 = some .local)
    (h : ∀ L' h₁, Fr g L' h₁ (fun y => binds.reverse.lookup y) → News g L' h₁ news → L' = s.heap.objs.size →
      wpAny (model prog w) (A.deeper (envX qual scope L' f cdv cl)) (execs body (envX qual scope L' f cdv cl))
        (fun fl s' => R (.ok (.ret (match fl with | .ret v => v | _ => .none))) s')
        (fun _ _ => False)
        { s with heap := h₁, toks := s.toks + binds.length })
    (hco : scope.isCoroutine = false := by rfl) (hgen : scope.isGenerator = false := by rfl) (hk : scope.kind = .function := by rfl)
    (hcell : ∀ x ∈ scope.names, x.2 ≠ .cell := by decide) : codeAny (model prog w) A (.call (.ref f) args) R s := by
  refine codeAny_call_def (fd := fnX name qual params body scope cl dV kV doc pm an cdv ct) (body := body) (binds := binds) hroom ho hd (hlim.keeps st) hcd rfl hbind hcell hloc (fun h₁ hns hk₁ => ?_) hco hgen hk
  refine wpAny_mono (h s.heap.objs.size h₁ ⟨hns, fun b o e => hk₁ b o (st b o e), sz⟩
    (fun p hp => ⟨hk₁ _ _ (N p hp).1, Nat.ne_of_lt (Heap.lt_size (N p hp).1), (N p hp).2⟩) rfl) (fun _ _ y => y) (fun _ _ y => y.elim)
theorem xn_free {M : Model} {A : Around} {E : Value → Shared → Prop} {s : Shared} {g : Heap} {C L a : Addr} {m : Str → Option Value} {cn : Str} {cs : Scope} {ccd : Value} {cl : List (Str × Addr)} {x : Str} {pos : Pos} {v : Value} {c : Addr} {ob : Obj} {Q : Value → Shared → Prop}
    (F : Fr g C s.heap m) (hk : cs.kind = .function) (hx : (envX cn cs L a ccd cl).kindOf x = some .free) (hc : cl.lookup x = some c) (o : g.get? c = some ob) (d : ob.data = .cell (some v)) (h : Q v s)
    (hd : (x == ("__debug__" : Str)) = false) (hn : (x == ("__classdict__" : Str)) = false) : wpAny M A (eval (.Name x pos) (envX cn cs L a ccd cl)) Q E s :=
  wpAny_Name (wpAny_loadName_free hk hx hc ⟨ob, F.keep _ _ o, d⟩ h hn) hd

end
/-! B11 -/
section
section
variable {prog : Program} {w : World} {A : Around} {E : Value → Shared → Prop} {s : Shared}
theorem wpAny_callBorrowed {M : Model} {f : Value} {pos : List Value} {Q : Value → Shared → Prop}
    (hc : codeAny M A (.call f ⟨pos, []⟩) (fun r s' => match r with | .ok (.ret v) => Q v s' | .ok _ => False | .error e => E e s') s) :
    wpAny M A (callBorrowed f pos) Q E s := fun Γ p hΓ => by
  unfold callBorrowed
  show wpCode M _ _ p s
  refine wpCode_mono ?_ (hc _ p rfl (hΓ.enter _ none p (by intro x; cases x)))
  intro r s' h
  match r, h with
  | .ok (.ret v), h => exact h
  | .error e, h => exact h
abbrev ciObj (f : Value) (z : Str) (t : Tok) : Obj := { cls := .type "callable_iterator", data := .fields #[f, .str z t, .bool false] }
theorem slot_ci_next : Slot "callable_iterator" "__next__" "callable_iterator.__next__" :=
  .of (owner := "callable_iterator") (n := "__next__") (by rw [typeLookup_type, builtinLookup_eq_fast]; kernel_rfl) (by decide +kernel) (by decide +kernel) (by decide +kernel)
    (by first | exact .inl (by decide +kernel) | exact .inr (by decide +kernel)) (by rw [isSubtype_type]; kernel_rfl)
theorem entry_ci_next : entryFor table "callable_iterator.__next__" = some Builtin.«callable_iterator.__next__» := entryFor_of_tree (by kernel_rfl)
theorem args_ci_next (a : Value) : argsOk "callable_iterator.__next__" ⟨[a], []⟩ := by
  unfold argsOk; kernel_rfl
theorem slot_ci_iter : Slot "callable_iterator" "__iter__" "callable_iterator.__iter__" :=
  .of (owner := "callable_iterator") (n := "__iter__") (by rw [typeLookup_type, builtinLookup_eq_fast]; kernel_rfl) (by decide +kernel) (by decide +kernel) (by decide +kernel)
    (by first | exact .inl (by decide +kernel) | exact .inr (by decide +kernel)) (by rw [isSubtype_type]; kernel_rfl)

theorem entry_ci_iter : entryFor table "callable_iterator.__iter__" = some Builtin.«dict_keyiterator.__iter__» := entryFor_alias (id' := "dict_keyiterator.__iter__") (by kernel_rfl) rfl (by decide +kernel) (by kernel_rfl)
theorem args_ci_iter (a : Value) : argsOk "callable_iterator.__iter__" ⟨[a], []⟩ := by
  unfold argsOk; kernel_rfl
theorem ci_iter {it : Addr} {f : Value} {z : Str} {t : Tok} {Q : Value → Shared → Prop} (hit : s.heap.get? it = some (ciObj f z t)) (h : Q (.ref it) s) : wpAny (model prog w) A (pyIter (.ref it)) Q E s := by
  have hT : s.TypeIs (.ref it) "callable_iterator" := ⟨_, hit, rfl⟩
  refine wpAny_pyIter_slot hT slot_ci_iter (wpAny_call_entry slot_ci_iter hT entry_ci_iter ?_ (args_ci_iter _))
  show wpAny _ _ (ret (.ref it)) _ _ s
  exact wpAny_pure ⟨_, rfl, "callable_iterator", _, hT, slot_ci_next.lookup, h⟩
theorem args_iter2 (a b : Value) : argsOk "iter" ⟨[a, b], []⟩ := by unfold argsOk; kernel_rfl
theorem look_method_call : typeLookup (.type "method") (Str.ofString "__call__") = pure (some (.builtin "method.__call__")) := by rw [typeLookup_type, builtinLookup_eq_fast]; kernel_rfl
theorem ci_make {q : Addr} {f self : Value} {z : Str} {t : Tok} {Q : Value → Shared → Prop} (hq : s.heap.get? q = some (methodObj f self))
    (h : Q (.ref s.heap.objs.size) { s with heap := s.heap.push (ciObj (.ref q) z t) }) : wpAny (model prog w) A (call (.builtin "iter") [.ref q, .str z t]) Q E s := by
  have hT : s.TypeIs (.ref q) "method" := ⟨_, hq, rfl⟩
  refine call_function_entry (by decide +kernel) (by decide +kernel) PySem.W.kdk_entry_iter (args_iter2 _ _) ?_
  unfold Builtin.«iter»
  refine wpAny_bind (m := someArgs "iter" 1 2 _) (wpAny_of_eq (a := [Value.ref q, .str z t]) (by first | rfl | kernel_rfl!) ?_)
  show wpAny _ _ (specialOf (.ref q) (Str.ofString "__call__") >>= _) _ _ _
  refine wpAny_bind (wpAny_specialOf hT look_method_call ?_)
  simp only [Option.isNone_some, Bool.false_eq_true, if_false]
  refine wpAny_bind (wpAny_rule ?_)
  refine wpAny_bind ?_
  unfold newFields
  exact wpAny_newObj_type (wpAny_pure ⟨_, rfl, h⟩) (by size_fits)
theorem borrows_method {q : Addr} {g : Addr} {self : Value} {o : Obj} {fd : FuncData} {Q : Bool → Shared → Prop} (hq : s.heap.get? q = some (methodObj (.ref g) self)) (hg : s.heap.get? g = some o) (hd : o.data = .func fd) (h : Q true s) :
    wpAny (model prog w) A (borrowsExactly (.ref q)) Q E s := by
  unfold borrowsExactly
  refine wpAny_bind (wpAny_load hq ?_)
  show wpAny _ _ (load g >>= _) _ _ _
  refine wpAny_bind (wpAny_load hg ?_)
  simp only [hd]
  exact wpAny_pure h
/-- what the call behind an iter(f, '') must give -/
noncomputable def CiStep (it q x g : Addr) (z : Str) (t : Tok) (Q : Option Value → Shared → Prop) (r : Result) (s' : Shared) : Prop :=
  match r with
  | .ok (.ret (.str ch tv)) => s'.heap.get? it = some (ciObj (.ref q) z t) ∧ (if z = ch then s'.heap.get? q = some (methodObj (.ref g) (.ref x)) ∧ (∃ o fd, s'.heap.get? g = some o ∧ o.data = .func fd) ∧ (∀ h', Heap.ExtBut it s'.heap h' → Q none { s' with heap := h' }) else Q (some (.str ch tv)) s')
  | _ => False
theorem ci_next {it q x g : Addr} {z : Str} {t : Tok} {Q : Option Value → Shared → Prop} (hh : A.handled = none) (hit : s.heap.get? it = some (ciObj (.ref q) z t)) (hq : s.heap.get? q = some (methodObj (.ref g) (.ref x)))
    (hg : ∃ o fd, s.heap.get? g = some o ∧ o.data = .func fd) (h : codeAny (model prog w) A.in1 (.call (.ref g) ⟨[.ref x], []⟩) (CiStep it q x g z t Q) s) : wpAny (model prog w) A (pyNext (.ref it)) Q E s := by
  obtain ⟨o, fd, hg, hd⟩ := hg
  have hT : s.TypeIs (.ref it) "callable_iterator" := ⟨_, hit, rfl⟩
  unfold pyNext
  refine wpAny_bind (wpAny_attempt (wpAny_callSpecial?_slot (name := Str.ofString "__next__") hT slot_ci_next
    (wpAny_call_entry slot_ci_next hT entry_ci_next ?_ (args_ci_next _))))
  unfold Builtin.«callable_iterator.__next__»
  refine wpAny_bind (m := slotArgs "__next__" 0 _) (wpAny_of_eq (a := (Value.ref it, [])) (by first | rfl | kernel_rfl!) ?_)
  dsimp only
  show wpAny _ _ (field (.ref it) 2 >>= _) _ _ _
  refine wpAny_bind (wpAny_field hit rfl (x := .bool false) rfl ?_)
  rw [if_neg (show ¬ ((Value.bool false == Value.bool true) = true) by decide)]
  show wpAny _ _ (field (.ref it) 0 >>= _) _ _ _
  refine wpAny_bind (wpAny_field hit rfl (x := .ref q) rfl ?_)
  refine wpAny_bind (wpAny_attempt ?_)
  unfold callOutOfASlot
  refine wpAny_bind (borrows_method hq hg hd ?_)
  rw [if_pos rfl]
  refine wpAny_callBorrowed (method_call hq (codeAny_mono h fun r s' hr => ?_))
  match r, hr with
  | .ok (.ret (.str ch tv)), hr =>
    obtain ⟨h1, h2⟩ := hr
    dsimp only
    show wpAny _ _ (field (.ref it) 2 >>= _) _ _ _
    refine wpAny_bind (wpAny_field h1 rfl (x := .bool false) rfl ?_)
    rw [if_neg (show ¬ ((Value.bool false == Value.bool true) = true) by decide)]
    show wpAny _ _ (field (.ref it) 1 >>= _) _ _ _
    refine wpAny_bind (wpAny_field h1 rfl (x := .str z t) rfl ?_)
    refine wpAny_bind (wpAny_holding (wpAny_eqBool_str ?_))
    by_cases e : z = ch
    · rw [if_pos e] at h2
      obtain ⟨k1, ⟨o2, fd2, k2, k3⟩, k4⟩ := h2
      rw [if_neg (by simp [e])]
      refine wpAny_bind (wpAny_rule ?_)
      show wpAny _ _ ((field (.ref it) 0 >>= fun v => slotLetsGo "callable_iterator.__next__" v _ >>= fun _ => setField (.ref it) 0 .none >>= fun _ => setField (.ref it) 1 .none >>= fun _ => setField (.ref it) 2 (.bool true)) >>= fun _ => Builtin.SmallTypes.stopIteration) _ _ _
      refine wpAny_bind (wpAny_bind (wpAny_field h1 rfl (x := .ref q) rfl ?_))
      unfold slotLetsGo
      refine wpAny_bind (wpAny_bind (borrows_method k1 k2 k3 ?_))
      rw [if_pos rfl]
      refine wpAny_pure ?_
      have u1 := Heap.get?_update_self (Obj.mapFields (·.setIfInBounds 0 Value.none)) h1 rfl
      refine wpAny_bind (wpAny_setField h1 rfl (by simp) ?_)
      have u2 := Heap.get?_update_self (Obj.mapFields (·.setIfInBounds 1 Value.none)) u1 rfl
      refine wpAny_bind (wpAny_setField u1 rfl (by simp) ?_)
      refine wpAny_setField u2 rfl (by simp) ?_
      unfold Builtin.SmallTypes.stopIteration
      show wpAny _ _ (newExc (.type "StopIteration") [] >>= _) _ _ _
      refine wpAny_bind ?_
      simp only [newExc, newTuple]
      refine wpAny_bind (wpAny_newObj_type ?_ (by size_fits))
      refine wpAny_bind (m := firstArgMember _ _) (wpAny_of_eq (a := Value.none) (by first | rfl | (simp only [firstArgMember]; rfl)) ?_)
      refine wpAny_newObj_type ?_ (by size_fits)
      simp only [raiseNew]
      refine wpAny_bind (wpAny_handled ?_)
      first | rw [show A.in1.handled = none from hh] | rw [hh]
      refine wpAny_bind (wpAny_pure (wpAny_throw ?_))
      refine wpAny_bind (wpAny_isInstance (T := "StopIteration") (b := true) ⟨_, Heap.get?_push_size _ rfl, rfl⟩ isSubtype_stop ?_)
      refine wpAny_pure (k4 _ ?_)
      refine Heap.ExtBut.push (Heap.ExtBut.push ?_ _) _
      exact ((Heap.SameBut.update ..).trans ((Heap.SameBut.update ..).trans (Heap.SameBut.update ..))).extBut
    · rw [if_neg e] at h2
      rw [if_pos (by simp [e])]
      exact wpAny_pure ⟨_, rfl, wpAny_pure h2⟩
end

end
/-! B12 -/
section
section
variable {prog : Program} {w : World} {A : Around} {h₀ : Heap}
/-- [x for x in l if ..], where the tests capture x (its place is a cell), over a list of ints -/
theorem comp_filterC {use : Option (Value → Sem Unit)} {env : Env} {iter : Expr} {x : Str} {px px2 : Pos} {ifs : List Expr} {scope : Scope} {cl : List (Str × Addr)} {pos : Pos} {Q : Value → Shared → Prop} {E : Value → Shared → Prop}
    {s₁ : Shared} {l : Addr} {vs : List Value} {ns : List Int} (pI : Int → Bool)
    (hcells : ∀ n, cellsFrom n scope.names cl = (x, n) :: cl) (hpush : ∀ h : Heap, pushCells h scope.names = h.push { cls := .type "cell", data := .cell none }) (hkind : scope.kind = .function) (hx : scope.names.lookup x = some .cell)
    (hh : A.handled = none) (hl : s₁.heap.IsList l vs.toArray) (hi : IntsAre vs ns) (hsz : ns.length ≤ sizeLine) (hd : (x == ("__debug__" : Str)) = false)
    (test : ∀ n t (ys : List Value) I C K D oI oK h tk E', n ∈ ns → oK.data = .cell (some (.int n t)) → Fr s₁.heap C h (fun _ => none) → News s₁.heap C h ((I, oI) :: (D, PySem.W.listOf ys.toArray ys.length) :: [(K, oK)]) → D ≠ I → K ≠ I → K ≠ D →
      wpAny (model prog w) A (tests ifs (compEnvC scope ((x, K) :: cl) C env)) (CTest s₁.heap C I D oI (PySem.W.listOf ys.toArray ys.length) (fun _ => none)
        (fun b news' => b = pI n ∧ (K, oK) ∈ news') { s₁ with heap := h, toks := tk }) E' { s₁ with heap := h, toks := tk })
    (fin : ∀ D C h tk ys m' f, IntsAre ys (ns.filter pI) → Fr s₁.heap C h m' → News s₁.heap C h [(D, PySem.W.listOf ys.toArray ys.length)] → compPost (model prog w) A E use Q (.ref D) C (.ok f) { s₁ with heap := h, toks := tk }) :
    wpAny (model prog w) A (pyIter (.ref l)) (fun it s₂ => wpAny (model prog w) A (newList []) (fun acc s₃ => wpAny (model prog w) A (newFunctionEnv scope env.globals cl [] env.qual none .none (some env)) (fun cenv s₄ =>
      codeAny (model prog w) A (.compStart (.ListComp (.Name x px2) [⟨.Name x px, iter, ifs, 0⟩] scope pos) 0 it acc { cenv with scope := relabel scope env }) (compPost (model prog w) A E use Q acc cenv.locals) s₄) E s₃) E s₂) E s₁ := by
  obtain ⟨ol, hol, _⟩ := id hl
  have hlt := Heap.lt_size hol
  refine wpAny_pyIter_list hl ?_
  refine wpAny_newObj_type ?_
  simp only [newFunctionEnv, Option.isSome_some, if_true]
  refine wpAny_bind (wpAny_alloc ?_)
  refine wpAny_bind (wpAny_layCells _ (fun name kind cells => by cases hkc : kind == NameKind.cell <;> simp [hkc]) _ _ _ _ ?_)
  simp only [List.forIn_nil]
  refine wpAny_bind (wpAny_pure (wpAny_pure ?_))
  rw [hcells, hpush]
  have i1 : (s₁.heap.push { cls := .type "list_iterator", data := .fields #[.ref l, .int 0 0] }).objs.size = s₁.heap.objs.size + 1 := Heap.size_push ..
  generalize hI : s₁.heap.objs.size = I at *
  generalize hH1 : s₁.heap.push { cls := .type "list_iterator", data := .fields #[.ref l, .int 0 0] } = H1 at *
  generalize hH2 : H1.push { cls := .type "list", dict := none, data := .seq ([] : List Value).toArray } = H2
  have i2 : H2.objs.size = I + 2 := by rw [← hH2, Heap.size_push, i1]
  generalize hH3 : H2.push { cls := .type "dict", data := .dict #[] } = H3
  have i3 : H3.objs.size = I + 3 := by rw [← hH3, Heap.size_push, i2]
  generalize hH4 : H3.push { cls := .type "cell", data := .cell none } = H4
  rw [i1, i2, i3]
  have u1 : ∀ b o, s₁.heap.get? b = some o → H1.get? b = some o := fun b o e => hH1 ▸ Heap.get?_push_of_some _ e
  have u2 : ∀ b o, H1.get? b = some o → H2.get? b = some o := fun b o e => hH2 ▸ Heap.get?_push_of_some _ e
  have u3 : ∀ b o, H2.get? b = some o → H3.get? b = some o := fun b o e => hH3 ▸ Heap.get?_push_of_some _ e
  have u4 : ∀ b o, H3.get? b = some o → H4.get? b = some o := fun b o e => hH4 ▸ Heap.get?_push_of_some _ e
  have gI : H1.get? I = some { cls := .type "list_iterator", data := .fields #[.ref l, .int 0 0] } := by
    have := Heap.get?_push_size s₁.heap (o := { cls := .type "list_iterator", data := .fields #[.ref l, .int 0 0] }) rfl
    rw [hH1, hI] at this; exact this
  have gD : H2.get? (I + 1) = some (PySem.W.listOf ([] : List Value).toArray 0) := by
    have := Heap.get?_push_size H1 (o := { cls := .type "list", dict := none, data := .seq ([] : List Value).toArray }) rfl
    rw [hH2, i1] at this; exact this
  have nC : H3.Ns (I + 2) (fun _ => none) := by
    have := Heap.Ns.new H2 (.type "dict")
    rw [hH3, i2] at this; exact this
  have gK : H4.get? (I + 3) = some { cls := .type "cell", data := .cell none } := by
    have := Heap.get?_push_size H3 (o := { cls := .type "cell", data := .cell none }) rfl
    rw [hH4, i3] at this; exact this
  have fresh : ∀ a, I ≤ a → s₁.heap.get? a = none := fun a ha => by
    cases e : s₁.heap.get? a with
    | none => rfl
    | some o' => exact absurd (hI ▸ Heap.lt_size e) (Nat.not_lt.mpr ha)
  have F₀ : Fr s₁.heap (I + 2) H4 (fun _ => none) := ⟨nC.keepsP u4, fun b o e => u4 _ _ (u3 _ _ (u2 _ _ (u1 _ _ e))), by omega⟩
  have n10 : @Ne Nat (I + 1) I := by omega
  have n20 : @Ne Nat (I + 2) I := by omega
  have n30 : @Ne Nat (I + 3) I := by omega
  have n31 : @Ne Nat (I + 3) (I + 1) := by omega
  have n32 : @Ne Nat (I + 3) (I + 2) := by omega
  have n12 : @Ne Nat (I + 1) (I + 2) := by omega
  have hlI : l ≠ I := Nat.ne_of_lt (hI ▸ hlt)
  have hlen : vs.length = ns.length := hi.length
  have W := Walks.list (prog := prog) (w := w) (A := A) hh I l hlI vs.toArray
  have loop : ∀ s₃ : Shared, s₃.heap = H4 → (∃ tk, s₃ = { s₁ with heap := H4, toks := tk }) →
      codeAny (model prog w) A (.compLoop (.ListComp (.Name x px2) [⟨.Name x px, iter, ifs, 0⟩] scope pos) 0 (.ref I) (.ref (I + 1)) (compEnvC scope ((x, I + 3) :: cl) (I + 2) env)) (compPost (model prog w) A E use Q (.ref (I + 1)) (I + 2)) s₃ := by
    rintro s₃ - ⟨tk₀, rfl⟩
    refine codeAny_compLoop_tests
      (fun k s' => Ex6 fun h' tk i ys oK v => A8 (s' = { s₁ with heap := h', toks := tk }) (i ≤ ns.length) (k = ns.length + 1 - i) (IntsAre ys ((ns.take i).filter pI)) (h'.IsListIter I l i) (oK.data = .cell v) (Fr s₁.heap (I + 2) h' (fun _ => none)) (News s₁.heap (I + 2) h' [(I + 1, PySem.W.listOf ys.toArray ys.length), (I + 3, oK)])) ?_ (ns.length + 1)
      ⟨H4, tk₀, 0, [], _, none, rfl, Nat.zero_le _, rfl, .nil, ⟨_, u4 _ _ (u3 _ _ (u2 _ _ gI)), rfl, rfl⟩, rfl, F₀, (fun p hp => by
        simp only [List.mem_cons, List.not_mem_nil, or_false] at hp
        rcases hp with rfl | rfl
        · exact ⟨u4 _ _ (u3 _ _ gD), n12, fresh _ (by show @LE.le Nat _ I (I + 1); omega)⟩
        · exact ⟨gK, n32, fresh _ (by show @LE.le Nat _ I (I + 3); omega)⟩)⟩
    rintro k s' ⟨h', tk, i, ys, oK, v₀, rfl, hin, rfl, hys, hit, hoK, F', N'⟩
    have hlL := hl.at fun o e => F'.keep l o e
    by_cases hlt2 : i < ns.length
    · obtain ⟨n, t, hv, hn⟩ : ∃ n t, vs[i]? = some (.int n t) ∧ ns[i]? = some n := by
        obtain ⟨n, t, e1, e2⟩ := hi.at i vs[i] (List.getElem?_eq_getElem (by omega))
        exact ⟨n, t, by rw [List.getElem?_eq_getElem (by omega), e1], e2⟩
      refine W.item i _ _ _ (by rw [List.size_toArray, hlen]; exact hlt2) ⟨hit, hlL⟩ fun v h₂ tk₂ hP hst₂ hk₂ => ?_
      have hv2 : v = .int n t := by
        have e1 : vs[i]? = some v := by simpa using hP
        rw [hv] at e1; exact (Option.some.inj e1).symm
      subst hv2
      have up : ∀ b o, @Ne Nat b I → h'.get? b = some o → h₂.get? b = some o := fun b o hb e => hk₂ b o (fun q => hb (List.mem_singleton.mp q)) e
      have F₂ : Fr s₁.heap (I + 2) h₂ (fun _ => none) := ⟨F'.ns.at' fun o e => up _ _ n20 e, fun b o e => up b o (fun q => by rw [q, fresh I (Nat.le_refl _)] at e; cases e) (F'.keep b o e), F'.above⟩
      have N₂ : News s₁.heap (I + 2) h₂ [(I + 1, PySem.W.listOf ys.toArray ys.length), (I + 3, oK)] := fun p hp => by
        have z := N' p hp
        refine ⟨up _ _ ?_ z.1, z.2⟩
        simp only [List.mem_cons, List.not_mem_nil, or_false] at hp
        rcases hp with rfl | rfl
        · exact n10
        · exact n30
      refine wpAny_assign_Name (wpAny_storeName_cell (c := I + 3) (v₀ := v₀) (by exact hkind) (by rw [kindOfC hx]; rfl) (by show List.lookup x ((x, I + 3) :: cl) = _; simp [List.lookup_cons]) ⟨_, News.get N₂ (.tail _ (.head _)), hoK⟩ fun h₃ hc₃ hs₃ => ?_)
      obtain ⟨oK', hK', hd'⟩ := hc₃
      have F₃ : Fr s₁.heap (I + 2) h₃ (fun _ => none) := F₂.change hs₃ n32 (fresh _ (by show @LE.le Nat _ I (I + 3); omega))
      have hst₃ : h₃.IsListIter I l (i + 1) := hst₂.1.at fun o e => hs₃.extBut _ _ n30.symm e
      obtain ⟨oI, hoI, hoI2⟩ := id hst₃
      have N₃ : News s₁.heap (I + 2) h₃ ((I, oI) :: (I + 1, PySem.W.listOf ys.toArray ys.length) :: [(I + 3, oK')]) := fun p hp => by
        simp only [List.mem_cons, List.not_mem_nil, or_false] at hp
        rcases hp with rfl | rfl | rfl
        · exact ⟨hoI, n20.symm, fresh _ (Nat.le_refl _)⟩
        · have z := N₂ _ (.head _); exact ⟨hs₃.extBut _ _ n31.symm z.1, z.2⟩
        · exact ⟨hK', n32, fresh _ (by show @LE.le Nat _ I (I + 3); omega)⟩
      have hmem : n ∈ ns := List.mem_of_getElem? hn
      have htk : (ns.take (i + 1)).filter pI = (ns.take i).filter pI ++ (if pI n = true then [n] else []) := by
        rw [List.take_add_one, hn, List.filter_append]
        congr 1
        show List.filter pI [n] = _
        rw [List.filter_cons]; rfl
      have hysl : ys.length ≤ i := by
        rw [hys.length]
        exact Nat.le_trans (List.length_filter_le _ _) (by rw [List.length_take]; omega)
      refine wpAny_mono (test n t ys I (I + 2) (I + 3) (I + 1) oI oK' h₃ _ _ hmem hd' F₃ N₃ n10 n30 n31) (fun b s₄ h₄ => ?_) fun _ _ e => e
      obtain ⟨h₄, tk₄, news₄, rfl, F₄, N₄, ha₄, rfl, hK₄⟩ := h₄
      have zI := News.get N₄ (.head _)
      have zD := N₄ _ (.tail _ (.head _))
      have zK := N₄ _ (.tail _ (.tail _ hK₄))
      cases hp : pI n with
      | false =>
        rw [hp] at htk
        simp only [Bool.false_eq_true, if_false] at htk ⊢
        rw [List.append_nil] at htk
        exact ⟨ns.length + 1 - (i + 1), by omega, h₄, tk₄, i + 1, ys, oK', _, rfl, hlt2, rfl, htk ▸ hys, ⟨oI, zI, hoI2⟩, hd', F₄, (fun p hp => by
          simp only [List.mem_cons, List.not_mem_nil, or_false] at hp
          rcases hp with rfl | rfl
          · exact zD
          · exact zK)⟩
      | true =>
        rw [hp] at htk
        simp only [if_true] at htk ⊢
        refine wpAny_Name (wpAny_loadName_cell (c := I + 3) (v := .int n t) (by exact hkind) (by rw [kindOfC hx]; rfl) (by show List.lookup x ((x, I + 3) :: cl) = _; simp [List.lookup_cons]) ⟨_, zK.1, hd'⟩ ?_) hd
        refine append_at (hsz := by show ys.toArray.size ≤ sizeLine; rw [List.size_toArray]; omega) zD.1 fun h₆ hs₆ hD₆ => ?_
        refine ⟨ns.length + 1 - (i + 1), by omega, h₆, tk₄, i + 1, ys ++ [.int n t], oK', _, rfl, hlt2, rfl, ?_, ⟨oI, hs₆.extBut _ _ n10.symm zI, hoI2⟩, hd', F₄.change hs₆ zD.2.1 zD.2.2, fun p hp => ?_⟩
        · rw [htk]; exact ints_snoc hys
        · simp only [List.mem_cons, List.not_mem_nil, or_false] at hp
          rcases hp with rfl | rfl
          · refine ⟨hD₆.trans ?_, zD.2⟩
            rw [List.length_append, List.length_singleton, List.push_toArray]
          · exact ⟨hs₆.extBut _ _ n31 zK.1, zK.2⟩
    · have hin2 : i = ns.length := Nat.le_antisymm hin (Nat.not_lt.mp hlt2)
      subst hin2
      rw [List.take_length] at hys
      refine W.done _ _ _ ⟨by rw [List.size_toArray, hlen]; exact hit, hlL⟩ fun h₂ tk₂ hk₂ => ?_
      have up : ∀ b o, @Ne Nat b I → h'.get? b = some o → h₂.get? b = some o := fun b o hb e => hk₂ b o (fun q => hb (List.mem_singleton.mp q)) e
      have F₂ : Fr s₁.heap (I + 2) h₂ (fun _ => none) := ⟨F'.ns.at' fun o e => up _ _ n20 e, fun b o e => up b o (fun q => by rw [q, fresh I (Nat.le_refl _)] at e; cases e) (F'.keep b o e), F'.above⟩
      refine fin (I + 1) (I + 2) h₂ tk₂ ys _ _ hys F₂ fun p hp => ?_
      rcases List.mem_singleton.mp hp with rfl
      have z := N' _ (.head _)
      exact ⟨up _ _ n10 z.1, z.2⟩
  exact codeAny_compStart_list (loop _ rfl ⟨_, rfl⟩) (W.self 0 _ _ _ ⟨⟨_, u4 _ _ (u3 _ _ (u2 _ _ gI)), rfl, rfl⟩, hl.at fun o e => F₀.keep l o e⟩ (loop _ rfl ⟨_, rfl⟩))
end

end
/-! B13 -/
section
section
variable {prog : Program} {w : World} {A : Around}
/-- a display of written ints gives a new tuple of them, wherever it stands -/
noncomputable def EvTup (prog : Program) (w : World) (A : Around) (e : Expr) (ns : List Int) : Prop := ∀ (env : Env) (s : Shared) (Q : Value → Shared → Prop) (E : Value → Shared → Prop),
  (∀ T h' tk vs, (∀ b o, s.heap.get? b = some o → h'.get? b = some o) → s.heap.objs.size ≤ T → h'.IsTuple T vs.toArray → IntsAre vs ns → Q (.ref T) { s with heap := h', toks := tk }) → wpAny (model prog w) A (eval e env) Q E s
theorem evTup2 {a b : Int} {k1 k2 k : Nat} {p1 p2 p : Pos} : EvTup prog w A (.Tuple [.Constant (.int a) k1 p1, .Constant (.int b) k2 p2] k p) [a, b] := fun env s Q E h => by
  refine Tuple_ (spliced_more (wpAny_Constant_int (spliced_more (wpAny_Constant_int (spliced_none (wpAny_newTuple ?_))))))
  exact h _ _ _ [.int a _, .int b _] (fun b o e => Heap.get?_push_of_some _ e) (Nat.le_refl _) ⟨_, Heap.get?_push_size _ rfl, rfl, _, rfl⟩ (.cons _ _ (.cons _ _ .nil))
theorem evTup3 {a b c : Int} {k1 k2 k3 k : Nat} {p1 p2 p3 p : Pos} : EvTup prog w A (.Tuple [.Constant (.int a) k1 p1, .Constant (.int b) k2 p2, .Constant (.int c) k3 p3] k p) [a, b, c] := fun env s Q E h => by
  refine Tuple_ (spliced_more (wpAny_Constant_int (spliced_more (wpAny_Constant_int (spliced_more (wpAny_Constant_int (spliced_none (wpAny_newTuple ?_))))))))
  exact h _ _ _ [.int a _, .int b _, .int c _] (fun b o e => Heap.get?_push_of_some _ e) (Nat.le_refl _) ⟨_, Heap.get?_push_size _ rfl, rfl, _, rfl⟩ (.cons _ _ (.cons _ _ (.cons _ _ .nil)))
noncomputable def sums3 (as bs cs : List Int) : List Int := as.flatMap fun a => bs.flatMap fun b => cs.map fun c => a + b + c
theorem ints_eq_of_get {zs : List Value} {cs : List Int} (f : Int → Int) (hl : zs.length = cs.length) (h : ∀ (j : Nat) y, zs[j]? = some y → ∃ c t, cs[j]? = some c ∧ y = .int (f c) t) : IntsAre zs (cs.map f) := by
  induction cs generalizing zs with
  | nil => cases zs with | nil => exact .nil | cons _ _ => simp at hl
  | cons c cs ih =>
    cases zs with
    | nil => simp at hl
    | cons z zs =>
      obtain ⟨c', t, e1, e2⟩ := h 0 z rfl
      simp only [List.getElem?_cons_zero, Option.some.injEq] at e1
      subst e1 e2
      exact .cons _ _ (ih (by simpa using hl) fun j y e => by have := h (j + 1) y (by simpa using e); simpa using this)
theorem ints_flat_of_get {zss : List (List Value)} {cs : List Int} (f : Int → List Int) (hl : zss.length = cs.length) (h : ∀ (j : Nat) zs, zss[j]? = some zs → ∃ c, cs[j]? = some c ∧ IntsAre zs (f c)) : IntsAre zss.flatten (cs.flatMap f) := by
  induction cs generalizing zss with
  | nil => cases zss with | nil => exact .nil | cons _ _ => simp at hl
  | cons c cs ih =>
    cases zss with
    | nil => simp at hl
    | cons z zs =>
      obtain ⟨c', e1, e2⟩ := h 0 z rfl
      simp only [List.getElem?_cons_zero, Option.some.injEq] at e1
      subst e1
      rw [List.flatten_cons, List.flatMap_cons]
      exact e2.append (ih (by simpa using hl) fun j y e => by have := h (j + 1) y (by simpa using e); simpa using this)
theorem flat_len_le {α : Type} {k : Nat} : ∀ {zss : List (List α)}, (∀ zs ∈ zss, zs.length ≤ k) → zss.flatten.length ≤ zss.length * k
  | [], _ => by simp
  | z :: r, h => by
    have := flat_len_le fun zs hz => h zs (.tail _ hz)
    have := h z (.head _)
    rw [List.flatten_cons, List.length_append, List.length_cons, Nat.succ_mul]
    omega
theorem sums2_len {a : Int} {bs cs : List Int} (hb : bs.length ≤ 10) (hc : cs.length ≤ 10) : (bs.flatMap fun b => cs.map fun c => a + b + c).length ≤ 100 := by
  rw [List.flatMap_def]
  refine Nat.le_trans (flat_len_le (k := 10) fun zs hz => ?_) (by rw [List.length_map]; omega)
  obtain ⟨b, _, rfl⟩ := List.mem_map.mp hz
  rw [List.length_map]; exact hc
theorem sums3_at {use : Option (Value → Sem Unit)} {env : Env} {x1 x2 x3 : Str} {px1 px2 px3 q1 q2 q3 p1 p2 : Pos} {i1 i2 i3 : Expr} {scope : Scope} {cl : List (Str × Addr)} {pos : Pos} {Q : Value → Shared → Prop} {E : Value → Shared → Prop} {s : Shared}
    (as bs cs : List Int) (hh : A.handled = none) (e1 : EvTup prog w A i1 as) (e2 : EvTup prog w A i2 bs) (e3 : EvTup prog w A i3 cs) (hal : as.length ≤ 10) (hbl : bs.length ≤ 10) (hcl : cs.length ≤ 10)
    (f2 : ∀ cenv y, foldedSetIterable i2 cenv y = pure y) (f3 : ∀ cenv y, foldedSetIterable i3 cenv y = pure y)
    (fin : ∀ D C (h h1 : Heap) tk ys m' f, IntsAre ys (sums3 as bs cs) → (∀ b o, s.heap.get? b = some o → h1.get? b = some o) → Fr h1 C h m' → News h1 C h [(D, PySem.W.listOf ys.toArray ys.length)] → compPost (model prog w) A E use Q (.ref D) C (.ok f) { s with heap := h, toks := tk })
    (hkind : scope.kind = .function := by rfl) (hx1 : scope.names.lookup x1 = some .local := by rfl) (hx2 : scope.names.lookup x2 = some .local := by rfl) (hx3 : scope.names.lookup x3 = some .local := by rfl) (hcell : ∀ y ∈ scope.names, y.2 ≠ .cell := by decide)
    (h12 : x1 ≠ x2 := by decide) (h13 : x1 ≠ x3 := by decide) (h23 : x2 ≠ x3 := by decide)
    (hd1 : (x1 == ("__debug__" : Str)) = false := by decide) (hd2 : (x2 == ("__debug__" : Str)) = false := by decide) (hd3 : (x3 == ("__debug__" : Str)) = false := by decide) :
    wpAny (model prog w) A (eval i1 env) (CompAtG use prog w A env (.BinOp (.BinOp (.Name x1 q1) .Add (.Name x2 q2) p1) .Add (.Name x3 q3) p2) [⟨.Name x1 px1, i1, [], 0⟩, ⟨.Name x2 px2, i2, [], 0⟩, ⟨.Name x3 px3, i3, [], 0⟩] scope cl pos Q E) E s := by
  refine e1 _ _ _ _ fun T1 h1 tk1 vs1 k1 z1 ht1 hi1 => ?_
  unfold CompAtG
  obtain ⟨ol, hol, _⟩ := id ht1
  have hlt := Heap.lt_size hol
  refine wpAny_pyIter_tuple ht1 ?_
  refine comp_top (s₁ := { s with heap := h1, toks := tk1 }) hcell hkind (Walks.tuple hh h1.objs.size T1 (Nat.ne_of_lt hlt) vs1.toArray) ⟨⟨_, Heap.get?_push_size _ rfl, rfl, rfl⟩, ht1.push _⟩ fun C D h tk F N st hDJ hJC fresh => ?_
  dsimp only at F N hDJ hJC fresh
  have hTC : T1 ≠ C := by rintro rfl; have := Heap.get?_none_of_le F.above; rw [hol] at this; cases this
  have l1 : vs1.length = as.length := hi1.length
  refine level_more (xs := [x1, x2, x3]) (m := fun _ => none) (others := []) (ys := []) (fun i zs => ∃ a, as[i]? = some a ∧ IntsAre zs (bs.flatMap fun b => cs.map fun c => a + b + c)) rfl rfl (fun y => f2 _ y) hkind hx1 (.head _) (Walks.tuple hh h1.objs.size T1 (Nat.ne_of_lt hlt) vs1.toArray)
    (fun i h st => by obtain ⟨o, e, _⟩ := st.1; exact ⟨o, e⟩) hJC fresh (by intro hm; rcases List.mem_cons.mp hm with e | hm; exact hJC e.symm; exact hTC (List.mem_singleton.mp hm).symm)
    (by intro b hb; rcases List.mem_cons.mp hb with rfl | hb; exact .inl rfl; rw [List.mem_singleton.mp hb]; exact .inr (.inl ⟨_, hol⟩)) st F N hDJ (fun _ hp => nomatch hp) ?hin ?post
  case post =>
    intro h3 tk3 m3 zss hzl hz hm3 F3 N3
    rw [List.nil_append] at N3
    exact fin _ _ _ _ _ _ _ _ (ints_flat_of_get _ (by rw [hzl, List.size_toArray, l1]) hz) k1 F3 N3
  case hin =>
    rintro i v m2 oJ ys' h2 tk2 E' hi hP ⟨ha, hat, F2, N2⟩ ⟨zss, hzl, hz, rfl⟩
    obtain ⟨a, ta, rfl, ha1⟩ := hi1.at i v (by simpa using hP)
    refine e2 _ _ _ _ fun T2 h2' tk2' vs2 k2 z2 ht2 hi2 => ?_
    obtain ⟨o2, ho2, _⟩ := id ht2
    have F2' := F2.keeps k2
    have N2' := N2.grown k2
    have l2 : vs2.length = bs.length := hi2.length
    have hz1 : zss.flatten.length ≤ 1000 := by
      refine Nat.le_trans (flat_len_le (k := 100) fun zs hzm => ?_) ?_
      · obtain ⟨j, hj⟩ := List.mem_iff_getElem?.mp hzm
        obtain ⟨a', _, hia⟩ := hz j zs hj
        rw [hia.length]; exact sums2_len hbl hcl
      · have : i < as.length := by rw [List.size_toArray, l1] at hi; exact hi
        rw [hzl]; omega
    have up : ∀ b o, h2'.get? b = some o → (h2'.push { cls := .type "tuple_iterator", data := .fields #[.ref T2, .int 0 0] }).get? b = some o := fun b o e => Heap.get?_push_of_some _ e
    have T2ne : T2 ≠ h2'.objs.size := Nat.ne_of_lt (Heap.lt_size ho2)
    have Cne : ∃ o, h2.get? C = some o := by obtain ⟨o, _, _, e, _⟩ := F2.ns; exact ⟨o, e⟩
    have T2n : h1.get? T2 = none := Heap.get?_none_of_le (Nat.le_trans F2.above (Nat.le_trans (Nat.le_of_lt F2.ns.lt) z2))
    have T2C : T2 ≠ C := Ne.symm (Nat.ne_of_lt (Nat.lt_of_lt_of_le F2.ns.lt z2))
    have zI := N2 _ (.head _)
    have zD := N2 _ (.tail _ (.head _))
    have T2D : T2 ≠ D := Ne.symm (Nat.ne_of_lt (Nat.lt_of_lt_of_le (Heap.lt_size zD.1) z2))
    have DJ2 : D ≠ h2'.objs.size := Nat.ne_of_lt (Heap.lt_size (N2' _ (.tail _ (.head _))).1)
    have IJ2 : h1.objs.size ≠ h2'.objs.size := Nat.ne_of_lt (Heap.lt_size (N2' _ (.head _)).1)
    have J2C : h2'.objs.size ≠ C := Ne.symm (Nat.ne_of_lt F2'.ns.lt)
    refine wpAny_pyIter_tuple ht2 ?_
    refine level_more (xs := [x2, x3]) (m := m2) (others := [(h1.objs.size, oJ), (T2, o2)]) (ys := [] ++ zss.flatten) (fun j zs => ∃ b, bs[j]? = some b ∧ IntsAre zs (cs.map fun c => a + b + c)) rfl rfl (fun y => f3 _ y) hkind hx2 (.head _) (Walks.tuple hh h2'.objs.size T2 T2ne vs2.toArray)
      (fun i h st => by obtain ⟨o, e, _⟩ := st.1; exact ⟨o, e⟩) J2C (next_is_new F2') (by intro hm; rcases List.mem_cons.mp hm with e | hm; exact J2C e.symm; exact T2C (List.mem_singleton.mp hm).symm)
      (by intro b hb; rcases List.mem_cons.mp hb with rfl | hb; exact .inl rfl; rw [List.mem_singleton.mp hb]; exact .inr (.inr ⟨_, .tail _ (.head _)⟩)) ⟨⟨_, Heap.get?_push_size _ rfl, rfl, rfl⟩, ht2.push _⟩ (F2'.keeps up) ?hN DJ2 ?hO ?hin2 ?post2
    case hN =>
      intro p hp
      simp only [List.mem_cons, List.not_mem_nil, or_false] at hp
      rcases hp with rfl | rfl | rfl
      · exact (N2'.grown up) _ (.tail _ (.head _))
      · exact (N2'.grown up) _ (.head _)
      · exact ⟨up _ _ ho2, T2C, T2n⟩
    case hO =>
      intro p hp
      simp only [List.mem_cons, List.not_mem_nil, or_false] at hp
      rcases hp with rfl | rfl
      · exact ⟨IJ2, Ne.symm hDJ⟩
      · exact ⟨T2ne, T2D⟩
    case post2 =>
      intro h3 tk3 m3 zss2 hzl2 hz2 hm3 F3 N3
      refine ⟨h3, tk3, m3, zss2.flatten, rfl, fun z hzn => ?_, F3, fun p hp => N3 p ?_, a, ha1, ints_flat_of_get _ (by rw [hzl2, List.size_toArray, l2]) hz2⟩
      · rw [hm3 z (fun q => hzn (.tail _ q))]; exact ha z hzn
      · simp only [List.mem_cons, List.not_mem_nil, or_false] at hp ⊢
        rcases hp with h | h
        · exact .inr (.inl h)
        · exact .inl h
    case hin2 =>
      rintro j v m3 oJ2 ys2 h3 tk3 E3 hj hP2 ⟨hag, hat2, F3, N3⟩ ⟨zss2, hzl2, hz2, rfl⟩
      obtain ⟨b, tb, rfl, hb1⟩ := hi2.at j v (by simpa using hP2)
      refine e3 _ _ _ _ fun T3 h3' tk3' vs3 k3 z3 ht3 hi3 => ?_
      obtain ⟨o3, ho3, _⟩ := id ht3
      have F3' := F3.keeps k3
      have N3' := N3.grown k3
      have l3 : vs3.length = cs.length := hi3.length
      have hz2l : zss2.flatten.length ≤ 100 := by
        refine Nat.le_trans (flat_len_le (k := 10) fun zs hzm => ?_) ?_
        · obtain ⟨j', hj'⟩ := List.mem_iff_getElem?.mp hzm
          obtain ⟨a', _, hia⟩ := hz2 j' zs hj'
          rw [hia.length, List.length_map]; exact hcl
        · have : j < bs.length := by rw [List.size_toArray, l2] at hj; exact hj
          rw [hzl2]; omega
      have up3 : ∀ b o, h3'.get? b = some o → (h3'.push { cls := .type "tuple_iterator", data := .fields #[.ref T3, .int 0 0] }).get? b = some o := fun b o e => Heap.get?_push_of_some _ e
      have T3ne : T3 ≠ h3'.objs.size := Nat.ne_of_lt (Heap.lt_size ho3)
      have T3n : h1.get? T3 = none := Heap.get?_none_of_le (Nat.le_trans F3.above (Nat.le_trans (Nat.le_of_lt F3.ns.lt) z3))
      have T3C : T3 ≠ C := Ne.symm (Nat.ne_of_lt (Nat.lt_of_lt_of_le F3.ns.lt z3))
      have off : ∀ p ∈ ((h2'.objs.size, oJ2) :: (D, PySem.W.listOf ([] ++ zss.flatten ++ zss2.flatten).toArray ([] ++ zss.flatten ++ zss2.flatten).length) :: [(h1.objs.size, oJ), (T2, o2)]), p.1 ≠ h3'.objs.size ∧ p.1 ≠ T3 := fun p hp =>
        ⟨Nat.ne_of_lt (Heap.lt_size (N3' p hp).1), Nat.ne_of_lt (Nat.lt_of_lt_of_le (Heap.lt_size (N3 p hp).1) z3)⟩
      refine wpAny_pyIter_tuple ht3 ?_
      refine level_last (xs := [x3]) (m := m3) (others := [(h2'.objs.size, oJ2), (h1.objs.size, oJ), (T2, o2), (T3, o3)]) (ys := [] ++ zss.flatten ++ zss2.flatten) (n := vs3.toArray.size) (fun i y => ∃ c t, cs[i]? = some c ∧ y = .int (a + b + c) t) rfl rfl hkind hx3 (.head _) (Walks.tuple hh h3'.objs.size T3 T3ne vs3.toArray)
        (fun i h st => by obtain ⟨o, e, _⟩ := st.1; exact ⟨o, e⟩) (Ne.symm (Nat.ne_of_lt F3'.ns.lt)) (next_is_new F3') (by intro hm; rcases List.mem_cons.mp hm with e | hm; exact (Nat.ne_of_lt F3'.ns.lt) e; exact T3C (List.mem_singleton.mp hm).symm)
        (by intro b hb; rcases List.mem_cons.mp hb with rfl | hb; exact .inl rfl; rw [List.mem_singleton.mp hb]; exact .inr (.inr ⟨_, .tail _ (.tail _ (.tail _ (.head _)))⟩)) ⟨⟨_, Heap.get?_push_size _ rfl, rfl, rfl⟩, ht3.push _⟩ (fun _ _ => rfl) (F3'.keeps up3) ?hN3 (off _ (.tail _ (.head _))).1 ?hO3 ?hsz3 ?hel ?post3
      case hN3 =>
        intro p hp
        simp only [List.mem_cons, List.not_mem_nil, or_false] at hp
        rcases hp with rfl | rfl | rfl | rfl | rfl
        · exact (N3'.grown up3) _ (.tail _ (.head _))
        · exact (N3'.grown up3) _ (.head _)
        · exact (N3'.grown up3) _ (.tail _ (.tail _ (.head _)))
        · exact (N3'.grown up3) _ (.tail _ (.tail _ (.tail _ (.head _))))
        · exact ⟨up3 _ _ ho3, T3C, T3n⟩
      case hO3 =>
        intro p hp
        simp only [List.mem_cons, List.not_mem_nil, or_false] at hp
        rcases hp with rfl | rfl | rfl | rfl
        · exact ⟨(off _ (.head _)).1, Ne.symm DJ2⟩
        · exact ⟨(off _ (.tail _ (.tail _ (.head _)))).1, Ne.symm hDJ⟩
        · exact ⟨(off _ (.tail _ (.tail _ (.tail _ (.head _))))).1, T2D⟩
        · exact ⟨T3ne, Ne.symm (off _ (.tail _ (.head _))).2⟩
      case hsz3 => rw [List.nil_append, List.size_toArray, List.length_append, sizeLine_eq]; omega
      case hel =>
        rintro k v m4 oJ3 ys3 h4 tk4 E4 hk hP3 ⟨hag3, hat3, F4, N4⟩
        obtain ⟨c, tc, rfl, hc1⟩ := hi3.at k v (by simpa using hP3)
        have b1 : m4 x1 = some (.int a ta) := (hag3 x1 (by simpa using h13)).trans ((hag x1 (by simp [h12, h13])).trans hat)
        have b2 : m4 x2 = some (.int b tb) := (hag3 x2 (by simpa using h23)).trans hat2
        refine wpAny_BinOp (wpAny_BinOp (cn_local F4 hx1 b1 (cn_local F4 hx2 b2 (PyProof.Rows.add_int ?_) hkind hd2) hkind hd1))
        refine cn_local F4 hx3 hat3 (PyProof.Rows.add_int ?_) hkind hd3
        exact ⟨h4, _, rfl, F4, N4, c, _, hc1, rfl⟩
      case post3 =>
        intro h4 tk4 m4 zs hzl3 hz3 hm4 F4 N4
        refine ⟨h4, tk4, m4, zs, rfl, fun z hzn => ?_, F4, fun p hp => N4 p ?_, b, hb1, ints_eq_of_get (fun c => a + b + c) (by rw [hzl3, List.size_toArray, l3]) hz3⟩
        · rw [hm4 z (fun q => hzn (.tail _ q))]; exact hag z hzn
        · simp only [List.mem_cons, List.not_mem_nil, or_false] at hp ⊢
          rcases hp with h | h | h | h
          · exact .inr (.inl h)
          · exact .inl h
          · exact .inr (.inr (.inl h))
          · exact .inr (.inr (.inr (.inl h)))
end

end
/-! B14 -/
section
theorem one_more {h₀ h h' : Heap} {L : Addr} {m : Str → Option Value} {news : List (Addr × Obj)} {l : Addr} {o : Obj} (F : Fr h₀ L h m) (N : News h₀ L h news) (k : h.StaysIn h') (e0 : h.get? l = none) (e1 : h'.get? l = some o) :
    Fr h₀ L h' m ∧ News h₀ L h' ((l, o) :: news) :=
  let z := added (more := [(l, o)]) F N k (fun p hp => by rcases List.mem_singleton.mp hp with rfl; exact ⟨e1, e0⟩)
  ⟨z.1, z.2.1⟩
section
variable {prog : Program} {w : World} {A : Around}
theorem CompG_ {env : Env} {elt iter target : Expr} {rest : List Comprehension} {scope : Scope} {cl : List (Str × Addr)} {pos : Pos} {Q : Value → Shared → Prop} {E : Value → Shared → Prop} {s : Shared}
    (hclos : closureFor scope env = pure cl)
    (h : wpAny (model prog w) A (eval iter env) (CompAtG none prog w A env elt (⟨target, iter, [], 0⟩ :: rest) scope cl pos Q E) E s)
    (hkind : scope.kind = .function := by rfl)
    (hnames : ∀ y ∈ scope.names, y.2 = .local → scope.names.lookup y.1 = some .local := by decide)
    (hs : ∀ x, foldedSetIterable iter env x = pure x := by intro _; rfl) :
    wpAny (model prog w) A (eval (.ListComp elt (⟨target, iter, [], 0⟩ :: rest) scope pos) env) Q E s := by
  rw [eval_ListComp]
  exact wpAny_comprehension_free (use := none) rfl hs hclos hkind hnames h
theorem fin_ret {E : Value → Shared → Prop} {Q : Value → Shared → Prop} {s : Shared} {D C : Addr} {h h1 : Heap} {tk : Nat} {m' : Str → Option Value} {f : Flow} {oD : Obj} {M : Model} (k1 : ∀ b o, s.heap.get? b = some o → h1.get? b = some o)
    (F : Fr h1 C h m') (N : News h1 C h [(D, oD)]) (done : ∀ h', (∀ b o, s.heap.get? b = some o → h'.get? b = some o) → s.heap.get? D = none → h'.get? D = some oD → Q (.ref D) { s with heap := h', toks := tk }) :
    compPost M A E none Q (.ref D) C (.ok f) { s with heap := h, toks := tk } := by
  have nC : h1.get? C = none := Heap.get?_none_of_le F.above
  have z := N _ (.head _)
  refine ⟨m', F.ns, fun h' hs => done h' (fun b o e => hs.extBut b o (fun q => by have := k1 b o e; rw [q, nC] at this; cases this) (F.keep _ _ (k1 _ _ e))) ?_ (hs.extBut _ _ z.2.1 z.1)⟩
  cases q : s.heap.get? D with
  | none => rfl
  | some o => have := k1 _ _ q; rw [z.2.2] at this; cases this
/-- the tests of a comprehension over ints that capture its name -/
noncomputable def TestC (prog : Program) (w : World) (A : Around) (x : Str) (ifs : List Expr) (scope : Scope) (cl : List (Str × Addr)) (env : Env) (s₁ : Shared) (ns : List Int) (pI : Int → Bool) : Prop :=
  ∀ n t (ys : List Value) I C K D oI oK h tk E', n ∈ ns → oK.data = .cell (some (.int n t)) → Fr s₁.heap C h (fun _ => none) → News s₁.heap C h ((I, oI) :: (D, PySem.W.listOf ys.toArray ys.length) :: [(K, oK)]) → D ≠ I → K ≠ I → K ≠ D →
      wpAny (model prog w) A (tests ifs (compEnvC scope ((x, K) :: cl) C env)) (CTest s₁.heap C I D oI (PySem.W.listOf ys.toArray ys.length) (fun _ => none)
        (fun b news' => b = pI n ∧ (K, oK) ∈ news') { s₁ with heap := h, toks := tk }) E' { s₁ with heap := h, toks := tk }
theorem filterC_ret {env : Env} {iter : Expr} {x : Str} {px px2 : Pos} {ifs : List Expr} {scope : Scope} {cl : List (Str × Addr)} {pos : Pos} {Q : Value → Shared → Prop} {E : Value → Shared → Prop}
    {s₁ : Shared} {l : Addr} {vs : List Value} {ns : List Int} (pI : Int → Bool) (hh : A.handled = none) (hl : s₁.heap.IsList l vs.toArray) (hi : IntsAre vs ns) (hsz : ns.length ≤ sizeLine)
    (test : TestC prog w A x ifs scope cl env s₁ ns pI)
    (done : ∀ D h tk ys, IntsAre ys (ns.filter pI) → (∀ b o, s₁.heap.get? b = some o → h.get? b = some o) → s₁.heap.get? D = none → h.get? D = some (PySem.W.listOf ys.toArray ys.length) → Q (.ref D) { s₁ with heap := h, toks := tk })
    (hcells : ∀ n, cellsFrom n scope.names cl = (x, n) :: cl := by intro _; rfl) (hpush : ∀ h : Heap, pushCells h scope.names = h.push { cls := .type "cell", data := .cell none } := by intro _; rfl) (hkind : scope.kind = .function := by rfl) (hx : scope.names.lookup x = some .cell := by rfl)
    (hd : (x == ("__debug__" : Str)) = false := by decide) :
    CompAt prog w A env (.Name x px2) iter (.Name x px) ifs scope cl pos Q E (.ref l) s₁ := by
  unfold CompAt
  exact comp_filterC pI hcells hpush hkind hx hh hl hi hsz hd test fun D C h tk ys m' f hys F N => fin_ret (fun _ _ e => e) F N fun h' k n e => done D h' tk ys hys k n e
end

end
/-! B15 -/
section
section
variable {prog : Program} {w : World} {A : Around} {E : Value → Shared → Prop} {s : Shared} {g : Heap} {L : Addr} {m : Str → Option Value} {news : List (Addr × Obj)}
abbrev tupO (vs : List Value) : Obj := { cls := .type "tuple", data := .seq vs.toArray }
abbrev rowObj (c : Addr × List Value) : Addr × Obj := (c.1, tupO c.2)
theorem tup_ne_list {vs us : List Value} {n : Nat} : tupO vs ≠ W.listOf us.toArray n := fun e => by
  have h : (Value.type "tuple") = Value.type "list" := congrArg Obj.cls e
  exact absurd h (by decide)
/-- append, whatever else the ledger holds -/
theorem append_any {D : Addr} {vs : List Value} {n : Nat} {x : Value} {Q : Value → Shared → Prop} (F : Fr g L s.heap m) (N : News g L s.heap news) (hm : (D, W.listOf vs.toArray n) ∈ news) (hsz : vs.length ≤ 1000) (news' : List (Addr × Obj))
    (hs : ∀ p ∈ news', p = (D, W.listOf (vs ++ [x]).toArray (n + 1)) ∨ (p ∈ news ∧ p.1 ≠ D)) (h : ∀ h', Fr g L h' m → News g L h' news' → Q .none { s with heap := h' }) :
    wpAny (model prog w) A (call (.builtin "list.append") [.ref D, x]) Q E s := by
  have zD := N _ hm
  refine append_at (hsz := by rw [sizeLine_eq, List.size_toArray]; omega) zD.1 fun h₆ hs₆ hD₆ => h h₆ (F.change hs₆ zD.2.1 zD.2.2) fun p hp => ?_
  rcases hs p hp with rfl | ⟨h1, h2⟩
  · refine ⟨hD₆.trans ?_, zD.2⟩
    rw [List.push_toArray]
  · have z := N p h1
    exact ⟨hs₆.extBut _ _ h2 z.1, z.2⟩
end

end
/-! B16 -/
section
section
variable {prog : Program} {w : World} {A : Around} {h₀ : Heap}
/-- what a turn of a for loop leaves whose name lies in a cell -/
noncomputable def TurnC (h₀ : Heap) (L I c : Addr) (oI : Obj) (J : (Str → Option Value) → List (Addr × Obj) → Prop) (Q : Flow → Shared → Prop) (s : Shared) (f : Flow) (s' : Shared) : Prop :=
  match f with
  | .ret v => Q (.ret v) s'
  | .brk => Q .next s'
  | _ => ∃ h' tk m' news' oc v, s' = { s with heap := h', toks := tk } ∧ oc.data = .cell v ∧ Fr h₀ L h' m' ∧ News h₀ L h' ((I, oI) :: (c, oc) :: news') ∧ (∀ p ∈ news', p.1 ≠ I ∧ p.1 ≠ c) ∧ J m' news'
theorem TurnC.next {L I c : Addr} {oI oc : Obj} {v : Option Value} {J : (Str → Option Value) → List (Addr × Obj) → Prop} {Q : Flow → Shared → Prop} {s : Shared} {h' : Heap} {tk : Nat} {m' : Str → Option Value} (news' : List (Addr × Obj)) {all : List (Addr × Obj)} (hoc : oc.data = .cell v)
    (F : Fr h₀ L h' m') (N : News h₀ L h' all) (hs : ∀ p ∈ (I, oI) :: (c, oc) :: news', p ∈ all) (ha : ∀ p ∈ news', p.1 ≠ I ∧ p.1 ≠ c) (hJ : J m' news') : TurnC h₀ L I c oI J Q s .next { s with heap := h', toks := tk } :=
  ⟨h', tk, m', news', oc, v, rfl, hoc, F, fun p hp => N p (hs p hp), ha, hJ⟩
theorem for_coreK {env : Env} {x : Str} {px : Pos} {body : List Stmt} {R : Result → Shared → Prop} {s : Shared} {I : Addr} {fp : List Addr} {n : Nat} {P : Nat → Value → Prop} {St : Nat → Heap → Prop} {m₀ : Str → Option Value} {news₀ : List (Addr × Obj)} {src : List (Addr × Obj)}
    {Q : Flow → Shared → Prop}
    (J : Nat → (Str → Option Value) → List (Addr × Obj) → Prop)
    (hx : env.kindOf x = some .local) (hp : (env.scope.kind == .class || (env.scope.kind == .module && env.locals != env.globals)) = false)
    (W : Walks prog w A I fp [I] n P St) (hIL : I ≠ env.locals) (hI0 : h₀.get? I = none) (hLf : env.locals ∉ fp)
    (hfp : ∀ b ∈ fp, b = I ∨ (∃ o, h₀.get? b = some o) ∨ ∃ o, (b, o) ∈ src)
    (hsrc : ∀ i m news, J i m news → ∀ p ∈ src, p ∈ news)
    (cI : Value) (hIo : ∀ i h, St i h → ∃ o, h.get? I = some o ∧ o.cls = cI)
    (hst : St 0 s.heap) (F : Fr h₀ env.locals s.heap m₀) (N : News h₀ env.locals s.heap news₀) (hap : ∀ p ∈ news₀, p.1 ≠ I) (h0 : J 0 m₀ news₀)
    (hRet : ∀ v s', Q (.ret v) s' → R (.ok (.ret v)) s') (hBrk : ∀ s', Q .next s' → R (.ok .next) s')
    (turn : ∀ i v m news oI h tk E', i < n → oI.cls = cI → P i v → J i m news → Fr h₀ env.locals h (fun y => if y = x then some v else m y) → News h₀ env.locals h ((I, oI) :: news) → (∀ p ∈ news, p.1 ≠ I) →
      wpAny (model prog w) A (execs body env) (Turn h₀ env.locals I oI (J (i + 1)) Q { s with heap := h, toks := tk }) E' { s with heap := h, toks := tk })
    (done : ∀ m news h tk, J n m news → Fr h₀ env.locals h m → News h₀ env.locals h news → R (.ok .next) { s with heap := h, toks := tk }) :
    codeAny (model prog w) A (.forLoop (.Name x px) (.ref I) body [] env) R s := by
  refine codeAny_forLoop
    (fun k s' => Ex5 fun h' tk m' news' i => A8 (s' = { s with heap := h', toks := tk }) (St i h') (Fr h₀ env.locals h' m') (News h₀ env.locals h' news') ((∀ p ∈ news', p.1 ≠ I)) (J i m' news') (i ≤ n) (k = n + 1 - i)) ?_ (n + 1)
    ⟨s.heap, s.toks, m₀, news₀, 0, rfl, hst, F, N, hap, h0, Nat.zero_le _, rfl⟩
  rintro k s' ⟨h', tk, m', news', i, rfl, hst', F', N', hap', hJ, hi, rfl⟩
  have keepF : ∀ h₁ : Heap, (∀ b o, b ∉ [I] → h'.get? b = some o → h₁.get? b = some o) → Fr h₀ env.locals h₁ m' ∧ News h₀ env.locals h₁ news' := fun h₁ hk =>
    ⟨⟨F'.ns.at' fun o e => hk _ o (fun hm => hIL (List.mem_singleton.mp hm).symm) e, fun b o e => hk b o (fun hm => by rw [List.mem_singleton.mp hm, hI0] at e; cases e) (F'.keep b o e), F'.above⟩,
      fun p hp => ⟨hk _ _ (fun hm => hap' p hp (List.mem_singleton.mp hm)) (N' p hp).1, (N' p hp).2⟩⟩
  by_cases hlt : i < n
  · refine W.item i _ _ _ hlt hst' fun v h₁ tk₁ hP hst₁ hk₁ => ?_
    obtain ⟨F₁, N₁⟩ := keepF h₁ hk₁
    refine wpAny_assign_Name (wpAny_storeName_local hx F₁.ns (fun h₂ hn₂ hs₂ => ?_) hp)
    have F₂ := F₁.set hn₂ hs₂
    have hst₂ : St (i + 1) h₂ := W.frame _ _ _ hst₁ fun b hb o e => hs₂.extBut b o (fun q => hLf (q ▸ hb)) e
    obtain ⟨oI, hoI, hcI⟩ := hIo _ _ hst₂
    have N₂ : News h₀ env.locals h₂ ((I, oI) :: news') := fun p hp => by
      rcases List.mem_cons.mp hp with rfl | hp
      · exact ⟨hoI, hIL, hI0⟩
      · exact (N₁.set hs₂) p hp
    refine wpAny_mono (turn i v m' news' oI h₂ _ _ hlt hcI hP hJ F₂ N₂ hap') (fun f s₃ h₃ => ?_) fun _ _ e => e
    have go : (∃ h' tk m' news', s₃ = { ({ s with heap := h₂, toks := tk₁ + 1 } : Shared) with heap := h', toks := tk } ∧ Fr h₀ env.locals h' m' ∧ News h₀ env.locals h' ((I, oI) :: news') ∧ (∀ p ∈ news', p.1 ≠ I) ∧ J (i + 1) m' news') →
        ∃ k, k < n + 1 - i ∧ /-EX-/ Ex5 fun h' tk m' news' j => A8 (s₃ = { s with heap := h', toks := tk }) (St j h') (Fr h₀ env.locals h' m') (News h₀ env.locals h' news') ((∀ p ∈ news', p.1 ≠ I)) (J j m' news') (j ≤ n) (k = n + 1 - j)/-XE-/ := by
      rintro ⟨g₃, tk₃, m₃, news₃, rfl, F₃, N₃, hap₃, hJ₃⟩
      refine ⟨n + 1 - (i + 1), by omega, g₃, tk₃, m₃, news₃, i + 1, rfl, ?_, F₃, fun p hp => N₃ p (List.mem_cons_of_mem _ hp), hap₃, hJ₃, hlt, rfl⟩
      refine W.frame _ _ _ hst₂ fun b hb o e => ?_
      rcases hfp b hb with rfl | ⟨o₀, e₀⟩ | ⟨o₀, hm⟩
      · have z := (N₃ _ (List.mem_cons_self ..)).1
        rw [hoI] at e; cases e; exact z
      · have : o₀ = o := by have := F₂.keep b o₀ e₀; rw [e] at this; exact (Option.some.inj this).symm
        exact this ▸ F₃.keep b o₀ e₀
      · have z := (N₂ _ (List.mem_cons_of_mem _ (hsrc i m' news' hJ _ hm))).1
        have z' := (N₃ _ (List.mem_cons_of_mem _ (hsrc (i + 1) m₃ news₃ hJ₃ _ hm))).1
        dsimp only at z z'
        rw [z] at e; cases e; exact z'
    cases f with
    | ret v => exact hRet v s₃ h₃
    | brk => exact hBrk s₃ h₃
    | next => exact go h₃
    | cont => exact go h₃
  · have hin : i = n := by omega
    subst hin
    refine W.done _ _ _ hst' fun h₁ tk₁ hk₁ => wpAny_execs_nil ?_
    obtain ⟨F₁, N₁⟩ := keepF h₁ hk₁
    exact done m' news' h₁ tk₁ hJ F₁ N₁

theorem for_coreC {env : Env} {x : Str} {px : Pos} {body : List Stmt} {R : Result → Shared → Prop} {s : Shared} {I : Addr} {fp : List Addr} {n : Nat} {P : Nat → Value → Prop} {St : Nat → Heap → Prop} {m₀ : Str → Option Value} {news₀ : List (Addr × Obj)} {src : List (Addr × Obj)}
    {Q : Flow → Shared → Prop}
    (J : Nat → (Str → Option Value) → List (Addr × Obj) → Prop)
    {c : Addr} {oc₀ : Obj} {v₀ : Option Value} (hkd : env.scope.kind = .function) (hx : env.kindOf x = some .cell) (hcl : env.cells.lookup x = some c) (hoc₀ : oc₀.data = .cell v₀) (hcf : c ∉ fp) (hcI : c ≠ I)
    (W : Walks prog w A I fp [I] n P St) (hIL : I ≠ env.locals) (hI0 : h₀.get? I = none) (hLf : env.locals ∉ fp)
    (hfp : ∀ b ∈ fp, b = I ∨ (∃ o, h₀.get? b = some o) ∨ ∃ o, (b, o) ∈ src)
    (hsrc : ∀ i m news, J i m news → ∀ p ∈ src, p ∈ news)
    (cI : Value) (hIo : ∀ i h, St i h → ∃ o, h.get? I = some o ∧ o.cls = cI)
    (hst : St 0 s.heap) (F : Fr h₀ env.locals s.heap m₀) (N : News h₀ env.locals s.heap ((c, oc₀) :: news₀)) (hap : ∀ p ∈ news₀, p.1 ≠ I ∧ p.1 ≠ c) (h0 : J 0 m₀ news₀)
    (hRet : ∀ v s', Q (.ret v) s' → R (.ok (.ret v)) s') (hBrk : ∀ s', Q .next s' → R (.ok .next) s')
    (turn : ∀ i v m news oI oc h tk E', i < n → oI.cls = cI → oc.data = .cell (some v) → P i v → J i m news → Fr h₀ env.locals h m → News h₀ env.locals h ((I, oI) :: (c, oc) :: news) → (∀ p ∈ news, p.1 ≠ I ∧ p.1 ≠ c) →
      wpAny (model prog w) A (execs body env) (TurnC h₀ env.locals I c oI (J (i + 1)) Q { s with heap := h, toks := tk }) E' { s with heap := h, toks := tk })
    (done : ∀ m news oc v h tk, J n m news → oc.data = .cell v → (∀ p ∈ news, p.1 ≠ c) → Fr h₀ env.locals h m → News h₀ env.locals h ((c, oc) :: news) → R (.ok .next) { s with heap := h, toks := tk }) :
    codeAny (model prog w) A (.forLoop (.Name x px) (.ref I) body [] env) R s := by
  refine codeAny_forLoop
    (fun k s' => Ex7 fun h' tk m' news' i oc v => A9 (s' = { s with heap := h', toks := tk }) (St i h') (oc.data = .cell v) (Fr h₀ env.locals h' m') (News h₀ env.locals h' ((c, oc) :: news')) ((∀ p ∈ news', p.1 ≠ I ∧ p.1 ≠ c)) (J i m' news') (i ≤ n) (k = n + 1 - i)) ?_ (n + 1)
    ⟨s.heap, s.toks, m₀, news₀, 0, oc₀, v₀, rfl, hst, hoc₀, F, N, hap, h0, Nat.zero_le _, rfl⟩
  rintro k s' ⟨h', tk, m', news', i, oc, v₁, rfl, hst', hoc, F', N', hap', hJ, hi, rfl⟩
  have keepF : ∀ h₁ : Heap, (∀ b o, b ∉ [I] → h'.get? b = some o → h₁.get? b = some o) → Fr h₀ env.locals h₁ m' ∧ News h₀ env.locals h₁ ((c, oc) :: news') := fun h₁ hk =>
    ⟨⟨F'.ns.at' fun o e => hk _ o (fun hm => hIL (List.mem_singleton.mp hm).symm) e, fun b o e => hk b o (fun hm => by rw [List.mem_singleton.mp hm, hI0] at e; cases e) (F'.keep b o e), F'.above⟩,
      fun p hp => ⟨hk _ _ (fun hm => by
        rcases List.mem_cons.mp hp with rfl | hp
        · exact hcI (List.mem_singleton.mp hm)
        · exact (hap' p hp).1 (List.mem_singleton.mp hm)) (N' p hp).1, (N' p hp).2⟩⟩
  by_cases hlt : i < n
  · refine W.item i _ _ _ hlt hst' fun v h₁ tk₁ hP hst₁ hk₁ => ?_
    obtain ⟨F₁, N₁⟩ := keepF h₁ hk₁
    have zc := N₁ _ (List.mem_cons_self ..)
    refine wpAny_assign_Name (wpAny_storeName_cell hkd hx hcl ⟨oc, zc.1, hoc⟩ (fun h₂ hc₂ hs₂ => ?_))
    obtain ⟨oc', hoc', hd'⟩ := hc₂
    have F₂ := F₁.change hs₂ zc.2.1 zc.2.2
    have hst₂ : St (i + 1) h₂ := W.frame _ _ _ hst₁ fun b hb o e => hs₂.extBut b o (fun q => hcf (q ▸ hb)) e
    obtain ⟨oI, hoI, hcl'⟩ := hIo _ _ hst₂
    have N₂ : News h₀ env.locals h₂ ((I, oI) :: (c, oc') :: news') := fun p hp => by
      rcases List.mem_cons.mp hp with rfl | hp
      · exact ⟨hoI, hIL, hI0⟩
      · rcases List.mem_cons.mp hp with rfl | hp
        · exact ⟨hoc', zc.2⟩
        · have z := N₁ p (List.mem_cons_of_mem _ hp)
          exact ⟨hs₂.extBut _ _ (hap' p hp).2 z.1, z.2⟩
    refine wpAny_mono (turn i v m' news' oI oc' h₂ tk₁ _ hlt hcl' hd' hP hJ F₂ N₂ hap') (fun f s₃ h₃ => ?_) fun _ _ e => e
    have go : (∃ h' tk m' news' oc v, s₃ = { ({ s with heap := h₂, toks := tk₁ } : Shared) with heap := h', toks := tk } ∧ oc.data = .cell v ∧ Fr h₀ env.locals h' m' ∧ News h₀ env.locals h' ((I, oI) :: (c, oc) :: news') ∧ (∀ p ∈ news', p.1 ≠ I ∧ p.1 ≠ c) ∧ J (i + 1) m' news') →
        ∃ k, k < n + 1 - i ∧ /-EX-/ Ex7 fun h' tk m' news' j oc v => A9 (s₃ = { s with heap := h', toks := tk }) (St j h') (oc.data = .cell v) (Fr h₀ env.locals h' m') (News h₀ env.locals h' ((c, oc) :: news')) ((∀ p ∈ news', p.1 ≠ I ∧ p.1 ≠ c)) (J j m' news') (j ≤ n) (k = n + 1 - j)/-XE-/ := by
      rintro ⟨g₃, tk₃, m₃, news₃, oc₃, v₃, rfl, hoc₃, F₃, N₃, hap₃, hJ₃⟩
      refine ⟨n + 1 - (i + 1), by omega, g₃, tk₃, m₃, news₃, i + 1, oc₃, v₃, rfl, ?_, hoc₃, F₃, fun p hp => N₃ p (List.mem_cons_of_mem _ hp), hap₃, hJ₃, hlt, rfl⟩
      refine W.frame _ _ _ hst₂ fun b hb o e => ?_
      rcases hfp b hb with rfl | ⟨o₀, e₀⟩ | ⟨o₀, hm⟩
      · have z := (N₃ _ (List.mem_cons_self ..)).1
        rw [hoI] at e; cases e; exact z
      · have : o₀ = o := by have := F₂.keep b o₀ e₀; rw [e] at this; exact (Option.some.inj this).symm
        exact this ▸ F₃.keep b o₀ e₀
      · have z := (N₂ _ (List.mem_cons_of_mem _ (List.mem_cons_of_mem _ (hsrc i m' news' hJ _ hm)))).1
        have z' := (N₃ _ (List.mem_cons_of_mem _ (List.mem_cons_of_mem _ (hsrc (i + 1) m₃ news₃ hJ₃ _ hm)))).1
        dsimp only at z z'
        rw [z] at e; cases e; exact z'
    cases f with
    | ret v => exact hRet v s₃ h₃
    | brk => exact hBrk s₃ h₃
    | next => exact go h₃
    | cont => exact go h₃
  · have hin : i = n := by omega
    subst hin
    refine W.done _ _ _ hst' fun h₁ tk₁ hk₁ => wpAny_execs_nil ?_
    obtain ⟨F₁, N₁⟩ := keepF h₁ hk₁
    exact done m' news' oc v₁ h₁ tk₁ hJ hoc (fun p hp => (hap' p hp).2) F₁ N₁

theorem for_listK {env : Env} {x : Str} {px : Pos} {body : List Stmt} {E : Value → Shared → Prop} {s : Shared} {l : Addr} {its : Array Value} {m₀ : Str → Option Value} {news₀ : List (Addr × Obj)} {src : List (Addr × Obj)}
    {Q : Flow → Shared → Prop}
    (J : Nat → (Str → Option Value) → List (Addr × Obj) → Prop)
    (hh : A.handled = none) (F : Fr h₀ env.locals s.heap m₀) (N : News h₀ env.locals s.heap news₀)
    (hl : (h₀.IsList l its ∧ src = []) ∨ ∃ k, src = [(l, W.listOf its k)])
    (hsrc : ∀ i m news, J i m news → ∀ p ∈ src, p ∈ news)
    (h0 : J 0 m₀ news₀)
    (turn : ∀ i v m news I oI h tk E', oI.cls = .type "list_iterator" → its[i]? = some v → J i m news → Fr h₀ env.locals h (fun y => if y = x then some v else m y) → News h₀ env.locals h ((I, oI) :: news) → (∀ p ∈ news, p.1 ≠ I) → s.heap.get? I = none →
      wpAny (model prog w) A (execs body env) (Turn h₀ env.locals I oI (J (i + 1)) Q { s with heap := h, toks := tk }) E' { s with heap := h, toks := tk })
    (done : ∀ m news h tk, J its.size m news → Fr h₀ env.locals h m → News h₀ env.locals h news → Q .next { s with heap := h, toks := tk })
    (hx : env.kindOf x = some .local := by rfl) (hp : (env.scope.kind == .class || (env.scope.kind == .module && env.locals != env.globals)) = false := by rfl) :
    ForAt prog w A env (.Name x px) body [] Q E (.ref l) s := by
  unfold ForAt
  have hls : s.heap.IsList l its := by
    rcases hl with ⟨hl, _⟩ | ⟨k, rfl⟩
    · exact hl.at fun o e => F.keep l o e
    · exact ⟨_, (N _ (hsrc _ _ _ h0 _ (List.mem_singleton.mpr rfl))).1, rfl, k, rfl⟩
  obtain ⟨ol, hol, _⟩ := id hls
  have hlt := Heap.lt_size hol
  have hne : l ≠ s.heap.objs.size := Nat.ne_of_lt hlt
  have hlL : l ≠ env.locals := by
    rcases hl with ⟨⟨o, e, _⟩, _⟩ | ⟨k, rfl⟩
    · exact Nat.ne_of_lt (Nat.lt_of_lt_of_le (Heap.lt_size e) F.above)
    · exact (N _ (hsrc _ _ _ h0 _ (List.mem_singleton.mpr rfl))).2.1
  refine wpAny_pyIter_list hls ?_
  have fresh : s.heap.get? s.heap.objs.size = none := by
    cases e : s.heap.get? s.heap.objs.size with
    | none => rfl
    | some o => exact absurd (Heap.lt_size e) (Nat.lt_irrefl _)
  refine for_coreK J hx hp (Walks.list hh s.heap.objs.size l hne its) (Ne.symm (Nat.ne_of_lt F.ns.lt)) (next_is_new F) ?_ ?_ hsrc (.type "list_iterator") (fun i h st => by obtain ⟨o, e, e2, _⟩ := st.1; exact ⟨o, e, e2⟩)
    ⟨⟨_, Heap.get?_push_size _ rfl, rfl, rfl⟩, hls.push _⟩ (F.push _) (N.grown fun _ _ e => Heap.get?_push_of_some _ e) (fun p hp => Nat.ne_of_lt (Heap.lt_size (N p hp).1)) h0 (fun _ _ q => q) (fun _ q => q)
    (fun i v m news oI h tk E' hi hc hP hJ F' N' ha => turn i v m news _ oI h tk E' hc hP hJ F' N' ha fresh) (fun m news h tk hJ F' N' => done m news h tk hJ F' N')
  · intro hm
    rcases List.mem_cons.mp hm with e | hm
    · exact absurd F.ns.lt (e ▸ Nat.lt_irrefl _)
    · exact hlL (List.mem_singleton.mp hm).symm
  · intro b hb
    rcases List.mem_cons.mp hb with rfl | hb
    · exact .inl rfl
    · rw [List.mem_singleton.mp hb]
      rcases hl with ⟨⟨o, e, _⟩, _⟩ | ⟨k, rfl⟩
      · exact .inr (.inl ⟨o, e⟩)
      · exact .inr (.inr ⟨_, List.mem_singleton.mpr rfl⟩)

theorem for_tupK {env : Env} {x : Str} {px : Pos} {body : List Stmt} {E : Value → Shared → Prop} {s : Shared} {l : Addr} {its : Array Value} {m₀ : Str → Option Value} {news₀ : List (Addr × Obj)} {src : List (Addr × Obj)}
    {Q : Flow → Shared → Prop}
    (J : Nat → (Str → Option Value) → List (Addr × Obj) → Prop)
    (hh : A.handled = none) (F : Fr h₀ env.locals s.heap m₀) (N : News h₀ env.locals s.heap news₀)
    (hl : (h₀.IsTuple l its ∧ src = []) ∨ src = [(l, ({ cls := .type "tuple", data := .seq its } : Obj))])
    (hsrc : ∀ i m news, J i m news → ∀ p ∈ src, p ∈ news)
    (h0 : J 0 m₀ news₀)
    (turn : ∀ i v m news I oI h tk E', oI.cls = .type "tuple_iterator" → its[i]? = some v → J i m news → Fr h₀ env.locals h (fun y => if y = x then some v else m y) → News h₀ env.locals h ((I, oI) :: news) → (∀ p ∈ news, p.1 ≠ I) → s.heap.get? I = none →
      wpAny (model prog w) A (execs body env) (Turn h₀ env.locals I oI (J (i + 1)) Q { s with heap := h, toks := tk }) E' { s with heap := h, toks := tk })
    (done : ∀ m news h tk, J its.size m news → Fr h₀ env.locals h m → News h₀ env.locals h news → Q .next { s with heap := h, toks := tk })
    (hx : env.kindOf x = some .local := by rfl) (hp : (env.scope.kind == .class || (env.scope.kind == .module && env.locals != env.globals)) = false := by rfl) :
    ForAt prog w A env (.Name x px) body [] Q E (.ref l) s := by
  unfold ForAt
  have hls : s.heap.IsTuple l its := by
    rcases hl with ⟨hl, _⟩ | rfl
    · exact hl.at fun o e => F.keep l o e
    · exact ⟨_, (N _ (hsrc _ _ _ h0 _ (List.mem_singleton.mpr rfl))).1, rfl, _, rfl⟩
  obtain ⟨ol, hol, _⟩ := id hls
  have hlt := Heap.lt_size hol
  have hne : l ≠ s.heap.objs.size := Nat.ne_of_lt hlt
  have hlL : l ≠ env.locals := by
    rcases hl with ⟨⟨o, e, _⟩, _⟩ | rfl
    · exact Nat.ne_of_lt (Nat.lt_of_lt_of_le (Heap.lt_size e) F.above)
    · exact (N _ (hsrc _ _ _ h0 _ (List.mem_singleton.mpr rfl))).2.1
  refine wpAny_pyIter_tuple hls ?_
  have fresh : s.heap.get? s.heap.objs.size = none := by
    cases e : s.heap.get? s.heap.objs.size with
    | none => rfl
    | some o => exact absurd (Heap.lt_size e) (Nat.lt_irrefl _)
  refine for_coreK J hx hp (Walks.tuple hh s.heap.objs.size l hne its) (Ne.symm (Nat.ne_of_lt F.ns.lt)) (next_is_new F) ?_ ?_ hsrc (.type "tuple_iterator") (fun i h st => by obtain ⟨o, e, e2, _⟩ := st.1; exact ⟨o, e, e2⟩)
    ⟨⟨_, Heap.get?_push_size _ rfl, rfl, rfl⟩, hls.push _⟩ (F.push _) (N.grown fun _ _ e => Heap.get?_push_of_some _ e) (fun p hp => Nat.ne_of_lt (Heap.lt_size (N p hp).1)) h0 (fun _ _ q => q) (fun _ q => q)
    (fun i v m news oI h tk E' hi hc hP hJ F' N' ha => turn i v m news _ oI h tk E' hc hP hJ F' N' ha fresh) (fun m news h tk hJ F' N' => done m news h tk hJ F' N')
  · intro hm
    rcases List.mem_cons.mp hm with e | hm
    · exact absurd F.ns.lt (e ▸ Nat.lt_irrefl _)
    · exact hlL (List.mem_singleton.mp hm).symm
  · intro b hb
    rcases List.mem_cons.mp hb with rfl | hb
    · exact .inl rfl
    · rw [List.mem_singleton.mp hb]
      rcases hl with ⟨⟨o, e, _⟩, _⟩ | rfl
      · exact .inr (.inl ⟨o, e⟩)
      · exact .inr (.inr ⟨_, List.mem_singleton.mpr rfl⟩)

theorem for_listC {env : Env} {x : Str} {px : Pos} {body : List Stmt} {E : Value → Shared → Prop} {s : Shared} {l : Addr} {its : Array Value} {m₀ : Str → Option Value} {news₀ : List (Addr × Obj)} {src : List (Addr × Obj)}
    {Q : Flow → Shared → Prop}
    (J : Nat → (Str → Option Value) → List (Addr × Obj) → Prop)
    (hh : A.handled = none) {c : Addr} {oc₀ : Obj} {v₀ : Option Value} (F : Fr h₀ env.locals s.heap m₀) (N : News h₀ env.locals s.heap ((c, oc₀) :: news₀)) (hoc₀ : oc₀.data = .cell v₀) (hap : ∀ p ∈ news₀, p.1 ≠ c) (hlc : l ≠ c)
    (hl : (h₀.IsList l its ∧ src = []) ∨ ∃ k, src = [(l, W.listOf its k)])
    (hsrc : ∀ i m news, J i m news → ∀ p ∈ src, p ∈ news)
    (h0 : J 0 m₀ news₀)
    (turn : ∀ i v m news I oI oc h tk E', oI.cls = .type "list_iterator" → oc.data = .cell (some v) → its[i]? = some v → J i m news → Fr h₀ env.locals h m → News h₀ env.locals h ((I, oI) :: (c, oc) :: news) → (∀ p ∈ news, p.1 ≠ I ∧ p.1 ≠ c) → c ≠ I → s.heap.get? I = none →
      wpAny (model prog w) A (execs body env) (TurnC h₀ env.locals I c oI (J (i + 1)) Q { s with heap := h, toks := tk }) E' { s with heap := h, toks := tk })
    (done : ∀ m news oc v h tk, J its.size m news → oc.data = .cell v → (∀ p ∈ news, p.1 ≠ c) → Fr h₀ env.locals h m → News h₀ env.locals h ((c, oc) :: news) → Q .next { s with heap := h, toks := tk })
    (hkd : env.scope.kind = .function := by rfl) (hx : env.kindOf x = some .cell := by rfl) (hcl : env.cells.lookup x = some c := by rfl) :
    ForAt prog w A env (.Name x px) body [] Q E (.ref l) s := by
  unfold ForAt
  have hls : s.heap.IsList l its := by
    rcases hl with ⟨hl, _⟩ | ⟨k, rfl⟩
    · exact hl.at fun o e => F.keep l o e
    · exact ⟨_, (N _ (List.mem_cons_of_mem _ (hsrc _ _ _ h0 _ (List.mem_singleton.mpr rfl)))).1, rfl, k, rfl⟩
  obtain ⟨ol, hol, _⟩ := id hls
  have hlt := Heap.lt_size hol
  have hne : l ≠ s.heap.objs.size := Nat.ne_of_lt hlt
  have hlL : l ≠ env.locals := by
    rcases hl with ⟨⟨o, e, _⟩, _⟩ | ⟨k, rfl⟩
    · exact Nat.ne_of_lt (Nat.lt_of_lt_of_le (Heap.lt_size e) F.above)
    · exact (N _ (List.mem_cons_of_mem _ (hsrc _ _ _ h0 _ (List.mem_singleton.mpr rfl)))).2.1
  refine wpAny_pyIter_list hls ?_
  have fresh : s.heap.get? s.heap.objs.size = none := by
    cases e : s.heap.get? s.heap.objs.size with
    | none => rfl
    | some o => exact absurd (Heap.lt_size e) (Nat.lt_irrefl _)
  have hcI : c ≠ s.heap.objs.size := Nat.ne_of_lt (Heap.lt_size (N _ (.head _)).1)
  refine for_coreC J hkd hx hcl hoc₀ ?_ hcI (Walks.list hh s.heap.objs.size l hne its) (Ne.symm (Nat.ne_of_lt F.ns.lt)) (next_is_new F) ?_ ?_ hsrc (.type "list_iterator") (fun i h st => by obtain ⟨o, e, e2, _⟩ := st.1; exact ⟨o, e, e2⟩)
    ⟨⟨_, Heap.get?_push_size _ rfl, rfl, rfl⟩, hls.push _⟩ (F.push _) (N.grown fun _ _ e => Heap.get?_push_of_some _ e) (fun p hp => ⟨Nat.ne_of_lt (Heap.lt_size (N p (.tail _ hp)).1), hap p hp⟩) h0 (fun _ _ q => q) (fun _ q => q)
    (fun i v m news oI oc h tk E' hi hc hd hP hJ F' N' ha => turn i v m news _ oI oc h tk E' hc hd hP hJ F' N' ha hcI fresh) (fun m news oc v h tk hJ hd ha F' N' => done m news oc v h tk hJ hd ha F' N')
  · intro hm
    rcases List.mem_cons.mp hm with e | hm
    · exact hcI e
    · exact hlc (List.mem_singleton.mp hm).symm
  · intro hm
    rcases List.mem_cons.mp hm with e | hm
    · exact absurd F.ns.lt (e ▸ Nat.lt_irrefl _)
    · exact hlL (List.mem_singleton.mp hm).symm
  · intro b hb
    rcases List.mem_cons.mp hb with rfl | hb
    · exact .inl rfl
    · rw [List.mem_singleton.mp hb]
      rcases hl with ⟨⟨o, e, _⟩, _⟩ | ⟨k, rfl⟩
      · exact .inr (.inl ⟨o, e⟩)
      · exact .inr (.inr ⟨_, List.mem_singleton.mpr rfl⟩)

end

end
/-! B17 -/
section
inductive RowsAre : List (Addr × List Value) → List (List Int) → Prop
  | nil : RowsAre [] []
  | cons {r : Addr × List Value} {c : List Int} {rs : List (Addr × List Value)} {cs : List (List Int)} (h : IntsAre r.2 c) (k : RowsAre rs cs) : RowsAre (r :: rs) (c :: cs)
theorem RowsAre.length {rs : List (Addr × List Value)} {cs : List (List Int)} (h : RowsAre rs cs) : rs.length = cs.length := by
  induction h with
  | nil => rfl
  | cons _ _ ih => rw [List.length_cons, List.length_cons, ih]
theorem RowsAre.append {rs rs' : List (Addr × List Value)} {cs cs' : List (List Int)} (h : RowsAre rs cs) (h' : RowsAre rs' cs') : RowsAre (rs ++ rs') (cs ++ cs') := by
  induction h with
  | nil => exact h'
  | cons h _ ih => exact .cons h ih
theorem RowsAre.at {rs : List (Addr × List Value)} {cs : List (List Int)} (h : RowsAre rs cs) : ∀ {k : Nat} {r}, rs[k]? = some r → ∃ c, cs[k]? = some c ∧ IntsAre r.2 c := by
  induction h with
  | nil => intro k r e; simp at e
  | cons h _ ih =>
    intro k r e
    cases k with
    | zero => simp only [List.getElem?_cons_zero, Option.some.injEq] at e; subst e; exact ⟨_, rfl, h⟩
    | succ k => exact ih (by simpa using e)
theorem RowsAre.of_get : ∀ {rs : List (Addr × List Value)} {cs : List (List Int)}, rs.length = cs.length → (∀ (k : Nat) r c, rs[k]? = some r → cs[k]? = some c → IntsAre r.2 c) → RowsAre rs cs
  | [], [], _, _ => .nil
  | r :: rs, c :: cs, hl, h => .cons (h 0 r c rfl rfl) (RowsAre.of_get (by simpa using hl) fun k a b ha hb => h (k + 1) a b ha hb)
  | [], _ :: _, hl, _ => by simp at hl
  | _ :: _, [], hl, _ => by simp at hl
section
variable {prog : Program} {w : World} {A : Around} {E : Value → Shared → Prop} {s : Shared}
theorem items_ints {prog : Program} {w : World} {vs : List Value} {ns : List Int} (h : IntsAre vs ns) : ItemsAre (intKind prog w) ns vs := by
  induction h with
  | nil => exact .nil
  | cons i t _ ih => exact .cons (by show Value.isInt i (.int i t) = true; simp [Value.isInt]) ih
theorem tup_key {prog : Program} {w : World} {h : Heap} {a : Addr} {vs : List Value} {ns : List Int} (e : h.get? a = some (tupO vs)) (hi : IntsAre vs ns) : IsTupleKey (intKind prog w) h ns a := ⟨_, _, _, e, rfl, rfl, items_ints hi⟩
theorem notin_rows {l D : Addr} {n : Nat} {rows : List (Addr × List Value)} {cls : List (List Int)} {vD : List Value} {k0 : List Int} {Q : Value → Shared → Prop} (hA : A.units + 1 < cLine) (hl : s.heap.get? l = some (PySem.W.listOf (rows.map fun r => Value.ref r.1).toArray n))
    (hr : ∀ r ∈ rows, s.heap.get? r.1 = some (tupO r.2)) (hri : RowsAre rows cls) (hD : s.heap.get? D = some (tupO vD)) (hiD : IntsAre vD k0) (h : Q (.bool (decide (k0 ∉ cls))) s) :
    wpAny (model prog w) A (compareOp .NotIn (.ref D) (.ref l)) Q E s := by
  have hT : s.TypeIs (.ref l) "list" := ⟨_, hl, rfl⟩
  -- what each item answers
  have key : ∃ e : Value → Bool, (∀ y, y ∈ (rows.map fun r => Value.ref r.1) → ∃ c ∈ cls, ∃ r ∈ rows, y = .ref r.1 ∧ IntsAre r.2 c ∧ e y = decide (c = k0)) ∧ ((rows.map fun r => Value.ref r.1).any e = decide (k0 ∈ cls)) := by
    classical
    refine ⟨fun y => decide (∃ r c, r ∈ rows ∧ IntsAre r.2 c ∧ y = .ref r.1 ∧ c = k0), fun y hy => ?_, ?_⟩
    · obtain ⟨r, hr1, rfl⟩ := List.mem_map.mp hy
      obtain ⟨k, hk⟩ := List.mem_iff_getElem?.mp hr1
      obtain ⟨c, hc, hi⟩ := hri.at hk
      refine ⟨c, List.mem_of_getElem? hc, r, hr1, rfl, hi, ?_⟩
      have : (∃ r' c', r' ∈ rows ∧ IntsAre r'.2 c' ∧ Value.ref r.1 = .ref r'.1 ∧ c' = k0) ↔ c = k0 := by
        constructor
        · rintro ⟨r', c', h1, h2, h3, rfl⟩
          have e1 : r.1 = r'.1 := by injection h3
          have z1 := hr r hr1
          have z2 := hr r' h1
          rw [e1, z2] at z1
          have e2 : r'.2 = r.2 := by
            have := congrArg Obj.data (Option.some.inj z1)
            simpa using this
          rw [e2] at h2
          exact (items_ints (prog := prog) (w := w) hi).inj (items_ints h2)
        · rintro rfl
          exact ⟨r, c, hr1, hi, rfl, rfl⟩
      simp only [this]
    · rw [Bool.eq_iff_iff, List.any_eq_true, decide_eq_true_iff]
      constructor
      · rintro ⟨y, hy, hey⟩
        obtain ⟨r, c, h1, h2, _, rfl⟩ := of_decide_eq_true hey
        obtain ⟨k, hk⟩ := List.mem_iff_getElem?.mp h1
        obtain ⟨c', hc', hi'⟩ := hri.at hk
        have : c = c' := (items_ints (prog := prog) (w := w) h2).inj (items_ints hi')
        exact this ▸ List.mem_of_getElem? hc'
      · intro hm
        obtain ⟨k, hk⟩ := List.mem_iff_getElem?.mp hm
        have hlt : k < rows.length := by rw [hri.length]; exact (List.getElem?_eq_some_iff.mp hk).1
        obtain ⟨c', hc', hi'⟩ := hri.at (List.getElem?_eq_getElem hlt)
        rw [hk] at hc'; cases hc'
        exact ⟨_, List.mem_map.mpr ⟨_, List.getElem_mem hlt, rfl⟩, decide_eq_true ⟨_, _, List.getElem_mem hlt, hi', rfl, rfl⟩⟩
  obtain ⟨e, he, hany⟩ := key
  show wpAny _ _ (do return .bool (!(← contains (.ref l) (.ref D)))) Q E s
  refine wpAny_bind (wpAny_contains_slot hT F.slot_list_contains (call_meets F.slot_list_contains hT F.entry_list_contains (F.args_list_contains_2 _ _) (PySem.SeqAt.list_containsAt l _ n none #[] (.ref D) e) ⟨hl, fun y hy => ?_, ?_⟩))
  · obtain ⟨c, hc, r, hr1, rfl, hi, e1⟩ := he y (by simpa using hy)
    intro prog w E Q hq
    rw [e1] at hq
    exact wpAny_eqBool_tuple hA (tup_key (prog := prog) (w := w) (hr r hr1) hi) (tup_key hD hiD) hq
  · refine wpAny_truthy_bool (wpAny_pure ?_)
    have e2 : (rows.map fun r => Value.ref r.1).toArray.any e = decide (k0 ∈ cls) := by rw [List.any_toArray]; exact hany
    rw [e2, ← decide_not]
    exact h
end

end
/-! B20 -/
section
/-- the call of a generator function makes its object; nothing of the body runs -/
theorem enterG {prog : Program} {w : World} {A : Around} {s : Shared} {g : Heap} {K : Frag}
    {R : Result → Shared → Prop} {name qual : Str} {params : Arguments} {body : List Stmt} {scope : Scope} {dV kV doc pm cdv ct oc : Value} {an od : Option Addr} {osl : Array (Option Value)} {f : Addr} {args : Args} {binds : List (Str × Value)}
    (X : K.In g) (hlim : g.NoLimit) (st : g.StaysIn s.heap) (sz : g.objs.size ≤ s.heap.objs.size)
    (ho : K.lookup f = some ⟨oc, od, .func (fnOf name qual params body scope dV kV doc pm an cdv ct), osl⟩) (hcd : codeIn K cdv qual = true) (hroom : A.depth < recursionLimit)
    (hbind : BindsTo s (fnOf name qual params body scope dV kV doc pm an cdv ct) args binds) (hloc : ∀ y ∈ binds, scope.names.lookup y.1 = some .local)
    (h : ∀ C a h₁ tk, C = s.heap.objs.size → @LT.lt Nat _ C a → (∀ b o, s.heap.get? b = some o → h₁.get? b = some o) → Fr g C h₁ (fun y => binds.reverse.lookup y) → h₁.IsGen a s.gens.size →
      R (.ok (.ret (.ref a))) { s with gens := s.gens.push (.fresh (.func body (envOf qual scope C f cdv))), heap := h₁, toks := tk })
    (hco : scope.isCoroutine = false := by rfl) (hgen : scope.isGenerator = true := by rfl) (hk : scope.kind = .function := by rfl)
    (hcell : ∀ x ∈ scope.names, x.2 ≠ .cell := by decide) : codeAny (model prog w) A (.call (.ref f) args) R s := by
  have X' : K.In s.heap := X.keeps st
  refine codeAny_call_generator (fd := fnOf name qual params body scope dV kV doc pm an cdv ct) (body := body) hroom (X' _ _ ho) rfl hco hgen rfl (codeRec_of X' hcd) (hbind _ _ _ _ ?_)
  refine wpAny_newFunctionEnv hcell hloc (fun h' hns hsb => ⟨(hlim.keeps st).fresh _ hsb, ?_⟩) hk
  have hk1 : ∀ b o, s.heap.get? b = some o → h'.get? b = some o := fun b o e => hsb.extBut b o (Nat.ne_of_lt (Heap.lt_size e)) (Heap.get?_push_of_some _ e)
  have hlt := hns.lt
  exact h s.heap.objs.size h'.objs.size _ _ rfl hlt (fun b o e => Heap.get?_push_of_some _ (hk1 b o e)) ⟨hns.push _, fun b o e => Heap.get?_push_of_some _ (hk1 b o (st b o e)), sz⟩ ⟨_, _, _, Heap.get?_push_size _ rfl, rfl, rfl, rfl⟩
theorem sub_value_stop : isSubtype (.type "ValueError") (.type "StopIteration") = pure false := by rw [isSubtype_type]; kernel_rfl
/-- the next item of a generator that yields, ends or raises -/
theorem next_gen {prog : Program} {w : World} {A : Around} {E : Value → Shared → Prop} {s : Shared} {a : Addr} {g n : Nat} {gs : GenState} {P : Nat → Shared → Shared → Prop} {PE : Nat → Shared → Value → Shared → Prop} {Y : Protocol} {Q : Option Value → Shared → Prop} (hh : A.handled = none)
    (hl : s.heap.NoLimit) (hroom : A.depth < recursionLimit)
    (hg : s.heap.IsGen a g) (hgs : s.gens[g]? = some gs)
    (hgo : gs.Goes (model prog w) A.in1 (fun n s₀ r s₁ => (r = .ok (.ret .none) ∧ P n s₀ s₁) ∨ ∃ e, r = .error e ∧ PE n s₀ e s₁) Y n (.send .none) (s.setGen g .running))
    (hY : ∀ v s₁ gs', gs'.bare = true → Y (n - 1) (s.setGen g .running) v s₁ (fun r' s'' => match n with
        | 0 => False
        | m + 1 => gs'.Goes (model prog w) A.in1 (fun n s₀ r s₁ => (r = .ok (.ret .none) ∧ P n s₀ s₁) ∨ ∃ e, r = .error e ∧ PE n s₀ e s₁) Y m r' s'') → Q (some v) (s₁.setGen g gs'))
    (hP : ∀ s₁, P n (s.setGen g .running) s₁ → ∀ h', (∀ b o, s₁.heap.get? b = some o → h'.get? b = some o) → Q none { s₁.setGen g .finished with heap := h' })
    (hE : ∀ e s₁, PE n (s.setGen g .running) e s₁ → s₁.heap.IsGen a g ∧ (s₁.setGen g .finished).TypeIs e "ValueError" ∧ E e (s₁.setGen g .finished)) :
    wpAny (model prog w) A (pyNext (.ref a)) Q E s := by
  unfold pyNext
  refine wpAny_bind (wpAny_attempt (wpAny_callSpecial?_slot (name := Str.ofString "__next__") hg.typeIs slot_gen_next
    (wpAny_call_entry slot_gen_next hg.typeIs entry_gen_next ?_ (args_gen_next _))))
  show wpAny _ A.in1 (Builtin.Generator.genWake (.ref a) (.send .none)) _ _ s
  unfold Builtin.Generator.genWake
  refine wpAny_bind (wpAny_holding (wpAny_genNumber hg (wpAny_bind (wpAny_genState hgs ?_))))
  cases gs with
  | running => exact hgo.elim
  | finished => exact hgo.elim
  | _ =>
    refine wpAny_bind (wpAny_roomToWake hl hroom ?_)
    show wpAny _ A.in1 (.resume g (.send .none) [] _) _ _ s
    refine wpAny_resumeQ hgs hgo (fun x s₁ hx => ?_) (fun v s₁ gs' hb hv => ?_)
    · rcases hx with ⟨rfl, hp⟩ | ⟨e, rfl, he⟩
      · show wpAny _ A.in1 (newExc (.type "StopIteration") [] >>= _) _ _ _
        refine wpAny_bind ?_
        simp only [newExc, newTuple]
        refine wpAny_bind (wpAny_newObj_type ?_ (by size_fits))
        refine wpAny_bind (m := firstArgMember _ _) (wpAny_of_eq (a := Value.none) (by first | rfl | (simp only [firstArgMember]; rfl)) ?_)
        refine wpAny_newObj_type ?_ (by size_fits)
        simp only [raiseNew]
        refine wpAny_bind (wpAny_bind (wpAny_handled ?_))
        first | rw [show A.in1.handled = none from hh] | rw [hh]
        refine wpAny_throw ?_
        refine wpAny_bind (wpAny_isInstance (T := "StopIteration") (b := true) ⟨_, Heap.get?_push_size _ rfl, rfl⟩ isSubtype_stop ?_)
        exact wpAny_pure (hP s₁ hp _ fun b o hb => Heap.get?_push_of_some _ (Heap.get?_push_of_some _ hb))
      · obtain ⟨⟨o, nm, qn, z1, z2, z3, _⟩, z5, z6⟩ := hE e s₁ he
        show wpAny _ A.in1 (Builtin.Generator.genLeft (.ref a) e) _ _ _
        unfold Builtin.Generator.genLeft Builtin.Generator.madeByALambda
        refine wpAny_bind (wpAny_bind (wpAny_load (o := o) z1 (wpAny_pure ?_)))
        rw [z2, z3]
        refine wpAny_bind (wpAny_isInstance (T := "ValueError") (b := false) z5 sub_value_stop ?_)
        rw [Bool.and_false]
        show wpAny _ _ (Builtin.Generator.genEscaped e) _ _ _
        unfold Builtin.Generator.genEscaped
        refine wpAny_bind (wpAny_isInstance (T := "ValueError") (b := false) z5 sub_value_stop ?_)
        refine wpAny_throw ?_
        refine wpAny_bind (wpAny_isInstance (T := "ValueError") (b := false) z5 sub_value_stop ?_)
        exact wpAny_throw z6
    · exact wpAny_pure ⟨v, rfl, wpAny_pure (hY v s₁ gs' hb hv)⟩
section
open Sem (wp)
/-- what a loop does to an error that leaves it -/
abbrev noted (env : Env) : Value → Sem PySem.Fin := fun e => (do noteFrame e env; theTreesLotGoes e : Sem Unit).wrap (fun _ => .raise e) .raise id id
variable {prog : Program} {w : World} {A : Around} {R : GenEnd} {Y : Protocol} {n : Nat} {s₀ : Shared} {fs : List Frame} {s : Shared} {env : Env}
theorem seg_forTurn {x : Str} {px : Pos} {it : Value} {body : List Stmt}
    (h : wpAny (model prog w) (A.over (.forLoop (.Name x px) it body [] env) fs) (pyNext it) (fun o s' => match o with
        | none => Seg (model prog w) A R Y n s₀ (.block [] env) ((model prog w).den (.block [] env)) fs s'
        | some v => wpAny (model prog w) (A.over (.forLoop (.Name x px) it body [] env) fs) (assign (.Name x px) env v) (fun _ s'' =>
            Seg (model prog w) A R Y n s₀ (.forLoop (.Name x px) it body [] env) ((execs body env).wrap (fun f => match f with
              | .next | .cont => .pure (.again (.forLoop (.Name x px) it body [] env))
              | .brk => .pure (.done .next)
              | .ret v => .pure (.done (.ret v))) (noted env) id id) fs s'') (fun _ _ => False) s') (fun _ _ => False) s) :
    Seg (model prog w) A R Y n s₀ (.forLoop (.Name x px) it body [] env) ((model prog w).den (.forLoop (.Name x px) it body [] env)) fs s := by
  show Seg _ A R Y n s₀ _ ((forTurn (.Name x px) it body [] env).onRaise (fun x => do noteFrame x env; theTreesLotGoes x)) fs s
  unfold forTurn
  rw [Sem.onRaise_eq_wrap]
  refine seg_at ?_
  show Seg _ A R Y n s₀ _ (Sem.wrap _ _ _ _ (((pyNext it).onRaise _) >>= _)) fs s
  rw [Sem.bind_eq_wrap', Sem.wrap_wrap]
  refine seg_wrap (wpAny_onRaise (wpAny_mono h (fun o s' ho => ?_) fun _ _ z => z.elim))
  cases o with
  | none => exact seg_again rfl ho
  | some v =>
    show Seg _ A R Y n s₀ _ (Sem.wrap _ _ _ _ (letOwnedTupleGo (.Name x px) it v >>= fun _ => (assign (.Name x px) env v >>= fun _ => (execs body env >>= _)))) fs s'
    rw [show letOwnedTupleGo (.Name x px) it v = pure () from rfl]
    show Seg _ A R Y n s₀ _ (Sem.wrap _ _ _ _ (assign (.Name x px) env v >>= fun _ => (execs body env >>= _))) fs s'
    rw [Sem.bind_eq_wrap', Sem.wrap_wrap]
    refine seg_wrap (wpAny_mono ho (fun _ s'' h2 => ?_) fun _ _ z => z.elim)
    rw [Sem.bind_eq_wrap', Sem.wrap_wrap]
    rw [Sem.wrap_congr (execs body env) _ _ (K' := fun f => match f with
              | .next | .cont => .pure (.again (.forLoop (.Name x px) it body [] env))
              | .brk => .pure (.done .next)
              | .ret v => .pure (.done (.ret v))) (H' := noted env)
        (fun f => by cases f <;> rfl)
        (fun e => by first | exact Sem.bind_eq_wrap _ _ | (show (do noteFrame e env; theTreesLotGoes e : Sem Unit).bind (fun _ => .raise e) = _; rw [Sem.bind_eq_wrap]))]
    exact h2
theorem seg_If {K : Flow → Sem PySem.Fin} {H : Value → Sem PySem.Fin} {gd : Bool → Bool} {lv : List Value → List Value} {c : Code} {test : Expr} {body orelse : List Stmt} {pos : Pos} {M : Model}
    (h : wpAny M (A.over c fs) (isTrue test env (eval test env)) (fun b s' => Seg M A R Y n s₀ c ((execs (if b = true then body else orelse) env).wrap K H gd lv) fs s') (fun _ _ => False) s) :
    Seg M A R Y n s₀ c ((exec (.If test body orelse pos) env).wrap K H gd lv) fs s := by
  rw [exec_If]
  refine seg_at ?_
  show Seg _ A R Y n s₀ _ (Sem.wrap _ _ _ _ ((isTrue test env (eval test env)) >>= _)) fs s
  rw [Sem.bind_eq_wrap', Sem.wrap_wrap]
  refine seg_wrap (wpAny_mono h (fun b s' hb => ?_) fun _ _ z => z.elim)
  cases b with
  | true => rw [if_pos rfl] at hb; exact hb
  | false => rw [if_neg Bool.false_ne_true] at hb; exact hb
theorem seg_block0 (h : Seg (model prog w) A R Y n s₀ (.block [] env) (.pure (.done .next)) fs s) : Seg (model prog w) A R Y n s₀ (.block [] env) ((model prog w).den (.block [] env)) fs s := h
/-- one statement that is walked as a whole -/
theorem seg_plain {K : Flow → Sem PySem.Fin} {H : Value → Sem PySem.Fin} {gd : Bool → Bool} {lv : List Value → List Value} {c : Code} {st : Stmt} {M : Model}
    (h : wpAny M (A.over c fs) (exec st env) (fun f s' => Seg M A R Y n s₀ c (K f) fs s') (fun x s' => Seg M A R Y n s₀ c (H x) fs s') s) :
    Seg M A R Y n s₀ c ((exec st env).wrap K H gd lv) fs s := seg_wrap h
end
section
variable {M : Model} {A : Around} {R : GenEnd} {Y : Protocol} {n : Nat} {s₀ : Shared} {fs : List Frame} {s : Shared} {env : Env}
/-- the frame that a loop of the body lies on -/
abbrev loopFrame (env : Env) (K : Flow → Sem PySem.Fin) (H : Value → Sem PySem.Fin) (gd : Bool → Bool) (lv : List Value → List Value) (c : Code) (p : Pos) : Frame :=
  .ret (fun r => ((match r with | .ok f => (.pure f : Sem Flow) | .error e => .raise e).onRaise fun (x : Value) => do
        if (← field x 1) == Value.none then unsupported "frame.own-activation:exception-without-traceback"
        setFlight x env.frame).wrap K H gd lv) none (gd false) (lv []) c p []
theorem seg_For {K : Flow → Sem PySem.Fin} {H : Value → Sem PySem.Fin} {gd : Bool → Bool} {lv : List Value → List Value} {c : Code} {target : Expr} {y : Str} {py : Pos} {body orelse : List Stmt} {pos : Pos}
    (h : wpAny M (A.over c fs) (eval (.Name y py) env) (fun v s₁ => wpAny M (A.over c fs) (pyIter v) (fun it s₂ =>
        ∀ p, Seg M A R Y n s₀ (.forLoop target it body orelse env) (M.den (.forLoop target it body orelse env)) (loopFrame env K H gd lv c p :: fs) s₂) (fun _ _ => False) s₁) (fun _ _ => False) s) :
    Seg M A R Y n s₀ c ((exec (.For target (.Name y py) body orelse pos) env).wrap K H gd lv) fs s := by
  rw [exec_For]
  refine seg_at ?_
  show Seg _ A R Y n s₀ _ (Sem.wrap _ _ _ _ ((eval (.Name y py) env) >>= _)) fs s
  rw [Sem.bind_eq_wrap', Sem.wrap_wrap]
  refine seg_wrap (wpAny_mono h (fun v s' hb => ?_) fun _ _ z => z.elim)
  show Seg _ A R Y n s₀ _ (Sem.wrap _ _ _ _ (standAt _ >>= _)) fs s'
  refine seg_at ?_
  show Seg _ A R Y n s₀ _ (Sem.wrap _ _ _ _ (holding _ (pyIter v) >>= _)) fs s'
  rw [Sem.bind_eq_wrap', Sem.wrap_wrap]
  refine seg_wrap (wpAny_holding (wpAny_mono hb (fun it s2 h2 => ?_) fun _ _ z => z.elim))
  exact seg_call h2
end

end
/-! B22 -/
section
/-- an error that flies: where its first entry stands, and what that entry tells -/
noncomputable def Fly (base : Heap) (e : Addr) (x : Value) (h : Heap) : Prop :=
  ∃ oe vs T oT ts, h.get? e = some oe ∧ oe.cls = .type "ValueError" ∧ oe.data = .fields vs ∧ vs[1]? = some (.ref T) ∧ base.get? T = none ∧ T ≠ e ∧ h.get? T = some oT ∧ oT.data = .fields ts ∧ ts[3]? = some x
/-- and what stands beside it -/
structure Flight (base : Heap) (l : List Env) (e : Addr) (x : Value) (ks : List (Addr × Obj)) (h : Heap) : Prop where
  stays : base.StaysIn h
  frames : h.FunFrames base l
  new : base.get? e = none
  fly : Fly base e x h
  keep : ∀ q ∈ ks, ∃ sl, h.get? q.1 = some { q.2 with slots := sl }
theorem Flight.typeIs {base : Heap} {l : List Env} {e : Addr} {x : Value} {ks : List (Addr × Obj)} {s : Shared} (f : Flight base l e x ks s.heap) : s.TypeIs (.ref e) "ValueError" := by
  obtain ⟨oe, vs, T, oT, ts, he, hc, _⟩ := f.fly
  exact ⟨oe, he, hc⟩
theorem Flight.tail {base : Heap} {env : Env} {l : List Env} {e : Addr} {x : Value} {ks : List (Addr × Obj)} {h : Heap} (f : Flight base (env :: l) e x ks h) : Flight base l e x ks h :=
  ⟨f.stays, f.frames.2.2, f.new, f.fly, f.keep⟩
section
variable {M : Model} {A : Around} {E : Value → Shared → Prop} {s : Shared}
/-- one more entry, ahead of those that are there -/
theorem entry_new {base : Heap} {env : Env} {outer : List Env} {L e : Addr} {oe : Obj} {vs : Array Value} {head : Value} {hadNext : Bool} {ks : List (Addr × Obj)} {Q : Unit → Shared → Prop}
    (hfr : A.frames = some (env :: outer)) (hl : s.heap.FunFrames base (env :: outer)) (hf : env.frame = some L)
    (he : s.heap.get? e = some oe) (hc : oe.cls = .type "ValueError") (hkb : base.StaysIn s.heap) (hen : base.get? e = none) (hd : oe.data = .fields vs) (hsz : 1 < vs.size)
    (hks : ∀ q ∈ ks, ∀ vs, q.2.data ≠ .fields vs) (hk : ∀ q ∈ ks, ∃ sl, s.heap.get? q.1 = some { q.2 with slots := sl })
    (h : ∀ h', Flight base (env :: outer) e (rawInt L) ks h' → Q () { s with heap := h' }) :
    wpAny M A (do let a ← frameOf env; let pl ← entryPlaceOf L hadNext; let b ← EntryCells.newEntry head a .none (rawInt L) .none pl; setField (.ref e) 1 b) Q E s := by
  have hene : e ∉ (env :: outer).filterMap (·.frame) := fun hm => by
    obtain ⟨_, o, ho, hnf⟩ := hl.mem hm
    rw [he] at ho; injection ho with ho; subst ho; exact hnf vs hd
  refine wpAny_bind (wpAny_frameOf_fun hfr hl hf fun h₁ hs₁ => ?_)
  refine wpAny_bind (wpAny_entryPlaceOf fun pl hpl => ?_)
  unfold EntryCells.newEntry newFields
  refine wpAny_bind (wpAny_newObj_type ?_ (hpl.sizeOk5 _ _ _ _ _))
  have he₁ : h₁.get? e = some oe := (hs₁.2.1 e hene).trans he
  have he₂ := Heap.get?_push_of_some (h := h₁) { cls := .type "traceback", dict := none, data := .fields ([head, .ref L, .none, rawInt L, .none] ++ (if pl.isEmpty then List.replicate 6 Value.none else pl)).toArray } he₁
  refine wpAny_setField he₂ hd hsz (h _ ?_)
  have hTe : h₁.objs.size ≠ e := Nat.ne_of_gt (Heap.lt_size he₁)
  have hd₃ := Obj.data_mapFields hd (·.setIfInBounds 1 (Value.ref h₁.objs.size))
  have he₃ := Heap.get?_update_self (Obj.mapFields (·.setIfInBounds 1 (Value.ref h₁.objs.size))) he₂ (Obj.isFreed_of_fields hd₃)
  have hT₃ := (Heap.get?_update_other (h₁.push { cls := .type "traceback", dict := none, data := .fields ([head, .ref L, .none, rawInt L, .none] ++ (if pl.isEmpty then List.replicate 6 Value.none else pl)).toArray })
    (Obj.mapFields (·.setIfInBounds 1 (Value.ref h₁.objs.size))) (Ne.symm hTe)).trans (Heap.get?_push_size h₁ rfl)
  have kb₁ : base.StaysIn h₁ := fun b o hbo => (hs₁.2.1 b fun hm => by rw [(hl.mem hm).1] at hbo; cases hbo).trans (hkb b o hbo)
  have keep : ∀ b o, b ≠ e → h₁.get? b = some o →
      ((h₁.push { cls := .type "traceback", dict := none, data := .fields ([head, .ref L, .none, rawInt L, .none] ++ (if pl.isEmpty then List.replicate 6 Value.none else pl)).toArray }).update e (Obj.mapFields (·.setIfInBounds 1 (Value.ref h₁.objs.size)))).get? b = some o := fun b o hbe hb => by
    rw [Heap.get?_update_other _ _ (Ne.symm hbe)]
    exact Heap.get?_push_of_some _ hb
  have noRecord : ∀ b o, s.heap.get? b = some o → (∀ vs, o.data ≠ .fields vs) → b ≠ e := fun b o hb hnf q => by
    rw [q, he] at hb; injection hb with hb; subst hb; exact hnf vs hd
  refine ⟨fun b o hbo => keep b o (fun q => by rw [q, hen] at hbo; cases hbo) (kb₁ b o hbo), hl.of_keeps fun b o hb hnf => ?_, hen, ?_, fun q hq => ?_⟩
  · obtain ⟨sl, hs⟩ := hs₁.2.2 b o hb
    exact ⟨_, keep b _ (noRecord b o hb hnf) hs, rfl⟩
  · refine ⟨_, _, h₁.objs.size, _, _, he₃, (Obj.cls_mapFields _ _).trans hc, hd₃, by simp [hsz], kb₁.fresh, hTe, hT₃, rfl, ?_⟩
    simp
  · obtain ⟨sl₀, hb⟩ := hk q hq
    obtain ⟨sl, hs⟩ := hs₁.2.2 _ _ hb
    exact ⟨sl, keep q.1 _ (noRecord q.1 _ hb (hks q hq)) hs⟩
theorem note_first {base : Heap} {env : Env} {outer : List Env} {L e : Addr} {oe : Obj} {vs : Array Value} {ks : List (Addr × Obj)} {Q : Unit → Shared → Prop}
    (hfr : A.frames = some (env :: outer)) (hl : s.heap.FunFrames base (env :: outer)) (hf : env.frame = some L)
    (he : s.heap.get? e = some oe) (hc : oe.cls = .type "ValueError") (hkb : base.StaysIn s.heap) (hen : base.get? e = none) (hd : oe.data = .fields vs) (h1 : vs[1]? = some .none)
    (hks : ∀ q ∈ ks, ∀ vs, q.2.data ≠ .fields vs) (hk : ∀ q ∈ ks, ∃ sl, s.heap.get? q.1 = some { q.2 with slots := sl })
    (h : ∀ h', Flight base (env :: outer) e (rawInt L) ks h' → Q () { s with heap := h' }) : wpAny M A (noteFrame (.ref e) env) Q E s := by
  unfold noteFrame
  simp only [hf]
  refine wpAny_bind (wpAny_field he hd h1 ?_)
  rw [if_neg (by decide)]
  exact entry_new hfr hl hf he hc hkb hen hd (Array.getElem?_eq_some_iff.mp h1).1 hks hk h
theorem note_next {base : Heap} {env : Env} {outer : List Env} {L e : Addr} {ks : List (Addr × Obj)} {Q : Unit → Shared → Prop}
    (hfr : A.frames = some (env :: outer)) (hf : env.frame = some L) (fl : Flight base (env :: outer) e .none ks s.heap)
    (hks : ∀ q ∈ ks, ∀ vs, q.2.data ≠ .fields vs)
    (h : ∀ h', Flight base (env :: outer) e (rawInt L) ks h' → Q () { s with heap := h' }) : wpAny M A (noteFrame (.ref e) env) Q E s := by
  obtain ⟨hkb, hl, hen, ⟨oe, vs, T, oT, ts, he, hcls, hd, h1, hnT, hTe, hT, hdT, h3⟩, hk⟩ := fl
  unfold noteFrame
  simp only [hf]
  refine wpAny_bind (wpAny_field he hd h1 ?_)
  rw [if_pos (show (Value.ref T != Value.none) = true from by simp)]
  refine wpAny_bind (wpAny_field hT hdT h3 ?_)
  rw [if_neg (show ¬ ((Value.none == rawInt L) = true) from by simp [rawInt])]
  refine wpAny_bind (wpAny_setField hT hdT (Array.getElem?_eq_some_iff.mp h3).1 ?_)
  have other : ∀ b, b ≠ T → (s.heap.update T (Obj.mapFields (·.setIfInBounds 3 Value.none))).get? b = s.heap.get? b := fun b hb => Heap.get?_update_other _ _ (Ne.symm hb)
  have noRecord : ∀ b o, s.heap.get? b = some o → (∀ vs, o.data ≠ .fields vs) → b ≠ T := fun b o hb hnf q => by
    rw [q, hT] at hb; injection hb with hb; subst hb; exact hnf ts hdT
  refine entry_new hfr (hl.of_keeps fun b o hb hnf => ⟨o, (other b (noRecord b o hb hnf)).trans hb, rfl⟩) hf ((other e (Ne.symm hTe)).trans he) hcls
    (fun b o hbo => (other b fun q => by rw [q, hnT] at hbo; cases hbo).trans (hkb b o hbo)) hen hd (Array.getElem?_eq_some_iff.mp h1).1 hks (fun q hq => ?_) h
  obtain ⟨sl, hb⟩ := hk q hq
  exact ⟨sl, (other q.1 (noRecord q.1 _ hb (hks q hq))).trans hb⟩
theorem note_same {base : Heap} {env : Env} {l : List Env} {L e : Addr} {ks : List (Addr × Obj)} {Q : Unit → Shared → Prop}
    (hf : env.frame = some L) (fl : Flight base l e (rawInt L) ks s.heap) (h : Q () s) : wpAny M A (noteFrame (.ref e) env) Q E s := by
  obtain ⟨hkb, hl, hen, ⟨oe, vs, T, oT, ts, he, hcls, hd, h1, hnT, hTe, hT, hdT, h3⟩, hk⟩ := fl
  exact wpAny_noteFrame_inFlight hf he hd h1 hT hdT h3 h
theorem fly_set {base : Heap} {l : List Env} {e : Addr} {x : Value} {f : Option Addr} {ks : List (Addr × Obj)} {Q : Unit → Shared → Prop}
    (fl : Flight base l e x ks s.heap) (hks : ∀ q ∈ ks, ∀ vs, q.2.data ≠ .fields vs) (h : ∀ h', Flight base l e (f.elim .none fun f => rawInt f) ks h' → Q () { s with heap := h' }) : wpAny M A (setFlight (.ref e) f) Q E s := by
  obtain ⟨hkb, hl, hen, ⟨oe, vs, T, oT, ts, he, hcls, hd, h1, hnT, hTe, hT, hdT, h3⟩, hk⟩ := fl
  unfold setFlight
  refine wpAny_bind (wpAny_field he hd h1 ?_)
  rw [if_pos (show (Value.ref T != Value.none) = true from by simp)]
  have h3s := (Array.getElem?_eq_some_iff.mp h3).1
  refine wpAny_setField hT hdT h3s (h _ ?_)
  have other : ∀ b, b ≠ T → (s.heap.update T (Obj.mapFields (·.setIfInBounds 3 (f.elim .none fun f => rawInt f)))).get? b = s.heap.get? b := fun b hb => Heap.get?_update_other _ _ (Ne.symm hb)
  have noRecord : ∀ b o, s.heap.get? b = some o → (∀ vs, o.data ≠ .fields vs) → b ≠ T := fun b o hb hnf q => by
    rw [q, hT] at hb; injection hb with hb; subst hb; exact hnf ts hdT
  have hd₃ := Obj.data_mapFields hdT (·.setIfInBounds 3 (f.elim .none fun f => rawInt f))
  refine ⟨fun b o hbo => (other b fun q => by rw [q, hnT] at hbo; cases hbo).trans (hkb b o hbo), hl.of_keeps fun b o hb hnf => ⟨o, (other b (noRecord b o hb hnf)).trans hb, rfl⟩, hen,
    ⟨oe, vs, T, _, _, (other e (Ne.symm hTe)).trans he, hcls, hd, h1, hnT, hTe, Heap.get?_update_self _ hT (Obj.isFreed_of_fields hd₃), hd₃, by simp [h3s]⟩, fun q hq => ?_⟩
  obtain ⟨sl, hb⟩ := hk q hq
  exact ⟨sl, (other q.1 (noRecord q.1 _ hb (hks q hq))).trans hb⟩
/-- what a loop's own activation does to an error that comes out of it -/
theorem came_back {base : Heap} {env : Env} {l : List Env} {e : Addr} {x : Value} {ks : List (Addr × Obj)} {Q : Unit → Shared → Prop}
    (fl : Flight base l e x ks s.heap) (hks : ∀ q ∈ ks, ∀ vs, q.2.data ≠ .fields vs) (h : ∀ h', Flight base l e (env.frame.elim .none fun f => rawInt f) ks h' → Q () { s with heap := h' }) :
    wpAny M A (do
      if (← field (.ref e) 1) == .none then unsupported "frame.own-activation:exception-without-traceback"
      setFlight (.ref e) env.frame) Q E s := by
  obtain ⟨oe, vs, T, oT, ts, he, hcls, hd, h1, hnT, hTe, hT, hdT, h3⟩ := fl.fly
  refine wpAny_bind (wpAny_field he hd h1 ?_)
  rw [if_neg (show ¬ ((Value.ref T == Value.none) = true) from by simp)]
  exact fly_set fl hks h
end
/-- the heap h, of which only g's objects and the one at a are seen -/
noncomputable def plus (h g : Heap) (a : Addr) : Heap := hideAll h ((List.range h.objs.size).filter fun b => decide (b ≠ a) && (g.get? b).isNone)
theorem plus_get {h g : Heap} {a b : Addr} {o : Obj} (e : (plus h g a).get? b = some o) : h.get? b = some o ∧ (b = a ∨ ∃ o', g.get? b = some o') := by
  have e1 := of_hideAll _ e
  refine ⟨e1, Classical.byContradiction fun z => ?_⟩
  have hm : b ∈ (List.range h.objs.size).filter fun b => decide (b ≠ a) && (g.get? b).isNone := by
    refine List.mem_filter.mpr ⟨List.mem_range.mpr (Heap.lt_size e1), ?_⟩
    rw [Bool.and_eq_true]
    refine ⟨decide_eq_true fun q => z (.inl q), ?_⟩
    cases q : g.get? b with
    | none => rfl
    | some o' => exact (z (.inr ⟨o', q⟩)).elim
  unfold plus at e
  rw [hideAll_none _ hm] at e
  cases e
theorem plus_a {h g : Heap} {a : Addr} {o : Obj} (e : h.get? a = some o) : (plus h g a).get? a = some o :=
  hideAll_get _ e fun hm => by
    have := (List.mem_filter.mp hm).2
    rw [Bool.and_eq_true] at this
    exact of_decide_eq_true this.1 rfl
theorem plus_g {h g : Heap} {a : Addr} (k : ∀ b o, g.get? b = some o → h.get? b = some o) : g.StaysIn (plus h g a) := fun b o e =>
  hideAll_get _ (k b o e) fun hm => by
    have := (List.mem_filter.mp hm).2
    rw [Bool.and_eq_true, e] at this
    exact absurd this.2 (fun z => by cases z)
theorem plus_none {h g : Heap} {a b : Addr} (e : g.get? b = none) (ne : b ≠ a) : (plus h g a).get? b = none := by
  cases q : (plus h g a).get? b with
  | none => rfl
  | some o =>
    rcases (plus_get q).2 with h | ⟨o', h⟩
    · exact (ne h).elim
    · rw [e] at h; cases h

end
/-! P0 -/
section
noncomputable def some5 : List Int := [0, 1, 2, 3, 127]
noncomputable def rulers : List (List Int) := [0, 1, 2, 3].flatMap fun a => some5.flatMap fun b => some5.flatMap fun c => [[a, b, c], [a, b, c, 0]]
theorem ruler_in (r : Int) : rulerOf r ∈ rulers := by
  have h8 : 0 ≤ (r.fdiv 8).fmod 5 ∧ (r.fdiv 8).fmod 5 < 5 := ⟨Int.fmod_nonneg_of_pos _ (by decide), Int.fmod_lt_of_pos _ (by decide)⟩
  have h40 : 0 ≤ (r.fdiv 40).fmod 5 ∧ (r.fdiv 40).fmod 5 < 5 := ⟨Int.fmod_nonneg_of_pos _ (by decide), Int.fmod_lt_of_pos _ (by decide)⟩
  have h2 : 0 ≤ (r.fdiv 200).fmod 2 ∧ (r.fdiv 200).fmod 2 < 2 := ⟨Int.fmod_nonneg_of_pos _ (by decide), Int.fmod_lt_of_pos _ (by decide)⟩
  have h3 : 0 ≤ r.fmod 3 ∧ r.fmod 3 < 3 := ⟨Int.fmod_nonneg_of_pos _ (by decide), Int.fmod_lt_of_pos _ (by decide)⟩
  have hget : ∀ k : Int, 0 ≤ k → k < 5 → ([0, 1, 2, 3, 127] : List Int).getD k.toNat 0 ∈ some5 := by
    intro k h0 h1
    have : k = 0 ∨ k = 1 ∨ k = 2 ∨ k = 3 ∨ k = 4 := by omega
    rcases this with rfl | rfl | rfl | rfl | rfl <;> decide
  have ha : (if r.fmod 8 = 7 then 0 else 1 + r.fmod 3) ∈ ([0, 1, 2, 3] : List Int) := by
    split
    · decide
    · have : r.fmod 3 = 0 ∨ r.fmod 3 = 1 ∨ r.fmod 3 = 2 := by omega
      rcases this with h | h | h <;> rw [h] <;> decide
  unfold rulers rulerOf
  refine List.mem_flatMap.mpr ⟨_, ha, List.mem_flatMap.mpr ⟨_, hget _ h8.1 h8.2, List.mem_flatMap.mpr ⟨_, hget _ h40.1 h40.2, ?_⟩⟩⟩
  have : (r.fdiv 200).fmod 2 = 0 ∨ (r.fdiv 200).fmod 2 = 1 := by omega
  rcases this with h | h <;> rw [h]
  · exact .tail _ (.head _)
  · exact .head _
theorem rulers_are : ∀ rs ∈ rulers, 3 ≤ rs.length ∧ rs.length ≤ 4 ∧ (sizesOf rs).length ≤ 4 ∧ ∀ x ∈ sizesOf rs, 1 ≤ x ∧ x ≤ 3 := by decide +kernel

end
/-! P1 -/
section
noncomputable def drawnOf (ts sz : List Int) : List (List Int) := (List.range sz.length).map fun k => clauseOf (ts.getD k 0) (sz.getD k 0).toNat
theorem clause_len (t : Int) (n : Nat) : (clauseOf t n).length = n := by unfold clauseOf; rw [List.length_map, List.length_range]
theorem clause_port {t : Int} {n : Nat} : ∀ x ∈ clauseOf t n, 253 ≤ x ∧ x ≤ 258 := by
  intro x hx
  unfold clauseOf at hx
  obtain ⟨i, _, rfl⟩ := List.mem_map.mp hx
  have h3 : 0 ≤ (t + (i : Int)).fmod 3 ∧ (t + (i : Int)).fmod 3 < 3 := ⟨Int.fmod_nonneg_of_pos _ (by decide), Int.fmod_lt_of_pos _ (by decide)⟩
  have h2 : 0 ≤ ((t.fdiv 3).fdiv (2 ^ i)).fmod 2 ∧ ((t.fdiv 3).fdiv (2 ^ i)).fmod 2 < 2 := ⟨Int.fmod_nonneg_of_pos _ (by decide), Int.fmod_lt_of_pos _ (by decide)⟩
  unfold litOf
  omega
theorem drawn_port {ts sz : List Int} : ∀ x ∈ (drawnOf ts sz).flatten, 253 ≤ x ∧ x ≤ 258 := by
  intro x hx
  obtain ⟨c, hc, hx⟩ := List.mem_flatten.mp hx
  obtain ⟨k, _, rfl⟩ := List.mem_map.mp hc
  exact clause_port x hx
theorem ints_flatten : ∀ {vss : List (List Value)} {nss : List (List Int)}, vss.length = nss.length → (∀ (k : Nat) vs ns, vss[k]? = some vs → nss[k]? = some ns → IntsAre vs ns) → IntsAre vss.flatten nss.flatten
  | [], [], _, _ => .nil
  | v :: vs, n :: ns, hl, h => by
    rw [List.flatten_cons, List.flatten_cons]
    exact (h 0 v n rfl rfl).append (ints_flatten (by simpa using hl) fun k a b ha hb => h (k + 1) a b ha hb)
  | [], _ :: _, hl, _ => by simp at hl
  | _ :: _, [], hl, _ => by simp at hl
theorem flat_len {α : Type} (k : Nat) : ∀ (rows : List (List α)), (∀ r ∈ rows, r.length ≤ k) → rows.flatten.length ≤ rows.length * k
  | [], _ => by simp
  | r :: rows, h => by
    rw [List.flatten_cons, List.length_append, List.length_cons, Nat.succ_mul]
    have := flat_len k rows fun r hr => h r (.tail _ hr)
    have := h r (.head _)
    omega
theorem drawn_get {ts sz : List Int} {k : Nat} (h : k < sz.length) : (drawnOf ts sz)[k]? = some (clauseOf (ts.getD k 0) (sz.getD k 0).toNat) := by
  unfold drawnOf
  rw [List.getElem?_map, List.getElem?_range h]; rfl
theorem drawn_len {ts sz : List Int} : (drawnOf ts sz).length = sz.length := by unfold drawnOf; rw [List.length_map, List.length_range]
theorem sum_bound : ∀ {ts : List Int} {b : Int}, 0 ≤ b → (∀ x ∈ ts, 0 ≤ x ∧ x ≤ b) → 0 ≤ ts.sum ∧ ts.sum ≤ b * ts.length
  | [], b, _, _ => by simp
  | t :: ts, b, hb, h => by
    have h1 := sum_bound hb fun x hx => h x (.tail _ hx)
    have h2 := h t (.head _)
    rw [List.sum_cons, List.length_cons, Int.natCast_add, Int.mul_add]
    have : b * ((1 : Nat) : Int) = b := Int.mul_one b
    omega

end
/-! P2 -/
section
theorem item_len {x : Str} {i : Int} : (Txt.item x i).length = 1 := rfl
theorem mul6 {j : Int} (h0 : 0 ≤ j) (h1 : j < 3) : (Txt.mul (Str.ofString "6") j).cps.toList = List.replicate j.toNat 54 := by
  have : j = 0 ∨ j = 1 ∨ j = 2 := by omega
  rcases this with rfl | rfl | rfl <;> decide +kernel
theorem mul1 {j : Int} (h0 : 0 ≤ j) (h1 : j < 2) : (Txt.mul (Str.ofString "1") j).cps.toList = List.replicate j.toNat 49 := by
  have : j = 0 ∨ j = 1 := by omega
  rcases this with rfl | rfl <;> decide +kernel
theorem len_list (x : Str) : x.length = x.cps.toList.length := (Array.length_toList).symm
theorem word_len {v : Int} {u : Str} (hv : Port v) (h : WordFor v u) : 0 < u.length ∧ u.length ≤ 20 := by
  obtain ⟨i, j, k, hi0, hi1, hj0, hj1, hk0, hk1, rfl⟩ := h
  have h6 : (Txt.mul (Str.ofString "6") j).length = j.toNat := by rw [len_list, mul6 hj0 hj1, List.length_replicate]
  have h1 : (Txt.mul (Str.ofString "1") k).length = k.toNat := by rw [len_list, mul1 hk0 hk1, List.length_replicate]
  have hs := shown_len hv
  simp only [PySem.Str.length_append, item_len]
  omega
theorem words_ok {row : List Int} {ws : List Str} (hrow : ∀ x ∈ row, Port x) (hl : ws.length = row.length) (h : ∀ (k : Nat) v u, row[k]? = some v → ws[k]? = some u → WordFor v u) : ∀ x ∈ ws ++ [Str.ofString "end"], 0 < x.length ∧ x.length ≤ 20 := by
  intro x hx
  rcases List.mem_append.mp hx with hx | hx
  · obtain ⟨k, hk, rfl⟩ := List.mem_iff_getElem.mp hx
    have hk' : k < row.length := by omega
    exact word_len (hrow _ (List.getElem_mem hk')) (h k _ _ (List.getElem?_eq_getElem hk') (List.getElem?_eq_getElem hk))
  · rcases List.mem_singleton.mp hx with rfl
    decide +kernel
theorem row_port {ts sz : List Int} : ∀ x ∈ (drawnOf ts sz).flatten ++ [0], Port x := by
  intro x hx
  rcases List.mem_append.mp hx with hx | hx
  · exact .inr (drawn_port x hx)
  · exact .inl (List.mem_singleton.mp hx)

end
/-! P3 -/
section
/-- the 27 clauses, in the order of `_law_all` -/
noncomputable def all27 : List (List Int) := [[], [253], [256]].flatMap fun a => [[], [254], [257]].flatMap fun b => [[], [255], [258]].map fun c => PySem.W.sortI (a ++ b ++ c)
noncomputable def othersOf (g : List Int) : List Int := g.flatMap fun p => (if p < 256 then [p + 3] else []) ++ (if p ≥ 256 then [p - 3] else [])
noncomputable def againstOf (g c : List Int) : List Int := (othersOf g).filter fun o => decide (o ∈ c)
/-- the literals of the clause that are not the opposite, and behind them the other's -/
noncomputable def spareOf (g c : List Int) (a : Int) : Nat → List Int
  | 0 => c.filter fun p => p != a
  | k + 1 => if (othersOf g).getD k 0 ≠ a ∧ g.getD k 0 ∉ spareOf g c a k then spareOf g c a k ++ [g.getD k 0] else spareOf g c a k
noncomputable def freshOf (g c : List Int) : List Int := PySem.W.sortI (spareOf g c ((againstOf g c).getD 0 0) g.length)
noncomputable def addNew (fs : List (List Int)) (c : List Int) : List (List Int) := if c ∈ fs then fs else fs ++ [c]
noncomputable def stepF (g : List Int) (fs : List (List Int)) (c : List Int) : List (List Int) := if (againstOf g c).length = 1 then addNew fs (freshOf g c) else fs
noncomputable def turnF (fs : List (List Int)) (k : Nat) : List (List Int) := (fs.take k).foldl (stepF (fs.getD k [])) fs
noncomputable def ddOf (cls : List (List Int)) : List (List Int) := cls.foldl addNew []
noncomputable def FF (cls : List (List Int)) : Nat → List (List Int)
  | 0 => ddOf cls
  | k + 1 => turnF (FF cls k) k
theorem fresh_in : ∀ g ∈ all27, ∀ c ∈ all27, (againstOf g c).length = 1 → freshOf g c ∈ all27 := by decide +kernel
theorem all27_len : ∀ c ∈ all27, c.length ≤ 3 ∧ ∀ x ∈ c, 253 ≤ x ∧ x ≤ 258 := by decide +kernel
structure Good (fs : List (List Int)) : Prop where
  sub : ∀ c ∈ fs, c ∈ all27
  nodup : fs.Nodup
theorem nodup_len {α : Type} [DecidableEq α] : ∀ {l m : List α}, l.Nodup → (∀ x ∈ l, x ∈ m) → l.length ≤ m.length
  | [], m, _, _ => Nat.zero_le _
  | a :: l, m, hn, hs => by
    obtain ⟨h1, h2⟩ := List.nodup_cons.mp hn
    have := nodup_len (m := m.erase a) h2 fun x hx => (List.mem_erase_of_ne (fun e => h1 (by rw [← e]; exact hx))).mpr (hs x (.tail _ hx))
    rw [List.length_erase_of_mem (hs a (.head _))] at this
    have hm : 0 < m.length := List.length_pos_of_mem (hs a (.head _))
    rw [List.length_cons]; omega
theorem Good.len {fs : List (List Int)} (h : Good fs) : fs.length ≤ 27 := Nat.le_trans (nodup_len h.nodup h.sub) (by decide +kernel)
theorem Good.add {fs : List (List Int)} {c : List Int} (h : Good fs) (hc : c ∈ all27) : Good (addNew fs c) := by
  unfold addNew
  split
  · exact h
  · rename_i hn
    refine ⟨fun d hd => ?_, List.nodup_append.mpr ⟨h.nodup, by simp, fun a ha b hb => ?_⟩⟩
    · rcases List.mem_append.mp hd with hd | hd
      · exact h.sub d hd
      · rcases List.mem_singleton.mp hd with rfl; exact hc
    · rcases List.mem_singleton.mp hb with rfl
      rintro rfl; exact hn ha
theorem Good.step {fs : List (List Int)} {g c : List Int} (h : Good fs) (hg : g ∈ all27) (hc : c ∈ all27) : Good (stepF g fs c) := by
  unfold stepF
  split
  · rename_i h1; exact h.add (fresh_in g hg c hc h1)
  · exact h
theorem step_pre {fs : List (List Int)} {g c : List Int} : ∃ r, stepF g fs c = fs ++ r := by
  unfold stepF addNew
  split
  · split
    · exact ⟨[], (List.append_nil _).symm⟩
    · exact ⟨_, rfl⟩
  · exact ⟨[], (List.append_nil _).symm⟩
theorem Good.nil : Good [] := ⟨(fun c hc => by cases hc), List.nodup_nil⟩
theorem good_dd : ∀ {cls fs : List (List Int)}, Good fs → (∀ c ∈ cls, c ∈ all27) → Good (cls.foldl addNew fs)
  | [], _, h, _ => h
  | c :: r, fs, h, hc => good_dd (cls := r) (fs := addNew fs c) (h.add (hc c (.head _))) fun d hd => hc d (.tail _ hd)
theorem good_steps {g : List Int} : ∀ {cls fs : List (List Int)}, Good fs → g ∈ all27 → (∀ c ∈ cls, c ∈ all27) → Good (cls.foldl (stepF g) fs) ∧ ∃ r, cls.foldl (stepF g) fs = fs ++ r
  | [], _, h, _, _ => ⟨h, [], (List.append_nil _).symm⟩
  | c :: cls, fs, h, hg, hc => by
    obtain ⟨r1, e1⟩ := step_pre (fs := fs) (g := g) (c := c)
    obtain ⟨h2, r2, e2⟩ := good_steps (cls := cls) (fs := stepF g fs c) (h.step hg (hc c (.head _))) hg fun d hd => hc d (.tail _ hd)
    exact ⟨h2, r1 ++ r2, by rw [List.foldl_cons, e2, e1, List.append_assoc]⟩

end
/-! C_next -/
section
local macro_rules | `(tactic| walk_at "eval Name") => `(tactic| (
  (with_reducible show wpAny _ _ (eval (PySem.Expr.Name _ _) (envX _ _ _ _ _ _)) _ _ _)
  k_dflt (refine' xn_free ?F ?hk ?hx ?hc ?o ?d ?_ ?hb ?hn; (case hk => rfl); (case hx => rfl); (case hc => rfl); (case F => k_asm); (case o => assumption); (case d => assumption); (case hb => decide); (case hn => decide); k_whole)))
noncomputable def pickDef : List Stmt → Option (Str × Arguments × List Stmt × Scope)
  | .FunctionDef n a b _ _ _ sc _ _ _ :: _ => some (n, a, b, sc)
  | _ :: r => pickDef r
  | [] => none
noncomputable def bodyAt (K : Frag) (a : Addr) : List Stmt := match K.lookup a with
  | some ⟨_, _, .func fd, _⟩ => match fd.body with
    | .stmts b => b
    | _ => []
  | _ => []
theorem pick_use {α β γ δ : Type} {o : Option (α × β × γ × δ)} {a a' : α} {b b' : β} {c c' : γ} {d d' : δ} (h : o = some (a, b, c, d)) (h' : o = some (a', b', c', d')) : a = a' ∧ b = b' ∧ c = c' ∧ d = d' := by
  rw [h] at h'; cases h'; exact ⟨rfl, rfl, rfl, rfl⟩
/-- the sign at a place, or nothing at the end -/
noncomputable def chAt (x : Str) (i : Nat) : Str := ⟨((x.cps.toList.drop i).take 1).toArray⟩
theorem chAt_lt {x : Str} {i : Nat} {c : Nat} (h : x.cps.toList[i]? = some c) : chAt x i = ⟨#[c]⟩ := by
  unfold chAt
  obtain ⟨hl, e⟩ := List.getElem?_eq_some_iff.mp h
  rw [List.drop_eq_getElem_cons hl, e]; rfl
theorem chAt_end {x : Str} {i : Nat} (h : x.length ≤ i) : chAt x i = ⟨#[]⟩ := by
  unfold chAt
  rw [List.drop_of_length_le (by rw [Array.length_toList]; exact h)]; rfl
theorem slice_ch {x : Str} {i : Nat} (hi : i ≤ x.length) : Txt.slice x (some (i : Int)) (some ((i : Int) + 1)) = chAt x i := by
  by_cases q : i < x.length
  · have e : Builtin.Str.strSliceIndices (some (i : Int)) (some ((i : Int) + 1)) 1 x.length = [i] := by
      have := PySem.StrLaws.strSliceIndices_plain (a := i) (b := i + 1) (len := x.length) (by omega) (by omega)
      rw [show ((i + 1 : Nat) : Int) = (i : Int) + 1 by omega] at this
      rw [this]
      simp
    have hg : x.cps.toList[i]? = some (x.cps[i]'q) := by rw [Array.getElem?_toList]; exact Array.getElem?_eq_getElem q
    rw [chAt_lt hg]
    unfold Txt.slice
    rw [e]
    by_cases h1 : x.length = 1
    · rw [if_pos (by rw [h1]; rfl)]
      have h0 : i = 0 := by omega
      subst h0
      cases x with
      | mk a =>
        have : a.size = 1 := h1
        congr 1
        apply Array.ext
        · simpa using this
        · intro k hk _; have : k = 0 := by (have hk2 : k < a.size := hk); omega
          subst this; rfl
    · rw [if_neg (by simp; omega)]
      congr 1
      simp [List.filterMap_cons, Array.getElem?_eq_getElem q]
  · have hq : i = x.length := by omega
    subst hq
    rw [chAt_end (Nat.le_refl _)]
    have e : Builtin.Str.strSliceIndices (some (x.length : Int)) (some ((x.length : Int) + 1)) 1 x.length = [] := by
      unfold Builtin.Str.strSliceIndices sliceRange
      simp
      omega
    unfold Txt.slice
    rw [e]
    by_cases h1 : x.length = 0
    · rw [if_pos (by rw [h1]; rfl)]
      cases x with
      | mk a =>
        have : a.size = 0 := h1
        congr 1
        exact Array.eq_empty_of_size_eq_zero this
    · rw [if_neg (by simp; omega)]
      rfl
theorem chAt_len {x : Str} {i : Nat} (hi : i ≤ x.length) : i + (chAt x i).length = min (i + 1) x.length := by
  by_cases q : i < x.length
  · have hg : x.cps.toList[i]? = some (x.cps[i]'q) := by rw [Array.getElem?_toList]; exact Array.getElem?_eq_getElem q
    rw [chAt_lt hg]; show i + 1 = _; omega
  · rw [chAt_end (by omega)]; show i + 0 = _; omega
theorem c_next {prog : Program} {w : World} {A : Around} {s : Shared} {R : Result → Shared → Prop} {p : Program} {loose : List Str} {mg mb : Str → Option Value}
    (h1 : A.handled = none) (h2 : A.depth ≤ 700) (h3 : A.units ≤ 400) {tx : Str} {t ti tc : Tok} {i n : Nat} {f sp ct cs c : Addr} {fo oT oS : Obj} {qual : Str} {doc pm ctv : Value} {nm : Str} {ps : Arguments} {bd : List Stmt} {sc : Scope}
    (hpk : pickDef (bodyAt (hd.heap_1 w.params) 135) = some (nm, ps, bd, sc)) (hM : ∀ p ∈ [(sp, PySem.W.listOf #[Value.int (i : Int) ti] n)], s.heap.get? p.1 = some p.2)
    (X : (hd.heap_1 w.params).In (hidden s.heap [(sp, PySem.W.listOf #[Value.int (i : Int) ti] n)])) (T : TopRead p loose mg mb (hidden s.heap [(sp, PySem.W.listOf #[Value.int (i : Int) ti] n)]))
    (ho : s.heap.get? f = some fo) (hdf : fo.data = .func (fnX nm qual ps bd sc [(Str.ofString "text", ct), (Str.ofString "spot", cs)] .none .none doc pm none (.ref c) ctv)) (hcd : s.heap.CodeRec (.ref c) qual)
    (hct : (hidden s.heap [(sp, PySem.W.listOf #[Value.int (i : Int) ti] n)]).get? ct = some oT) (dT : oT.data = Data.cell (some (.str tx t))) (hcs : (hidden s.heap [(sp, PySem.W.listOf #[Value.int (i : Int) ti] n)]).get? cs = some oS) (dS : oS.data = Data.cell (some (.ref sp)))
    (htx : tx.length ≤ 5000) (hi : i ≤ tx.length)
    (h : ∀ h' tk tv tw, (hidden s.heap [(sp, PySem.W.listOf #[Value.int (i : Int) ti] n)]).StaysIn h' → h'.get? sp = some (PySem.W.listOf #[Value.int ((min (i + 1) tx.length : Nat) : Int) tw] n) →
      R (.ok (.ret (.str (chAt tx i) tv))) { s with heap := h', toks := tk }) :
    codeAny (model prog w) A (.call (.ref f) ⟨[.int 1 tc], []⟩) R s := by
  obtain ⟨q1, q2, q3, q4⟩ := pick_use hpk (by with_unfolding_all rfl)
  subst q1 q2 q3 q4
  refine code_weak (d := 700) (u := 400) (by assumption) (by assumption) (by assumption) ?_
  refine' enterX (binds := [(Str.ofString "count", .int 1 tc)]) (TopRead.nolimit T) (fun _ _ e => of_hideAll _ e) (Nat.le_of_eq (hideAll_size _ _)) (enterM_news hM) ho hdf hcd ?hroom ?hb ?hloc ?_ ?e1 ?e2 ?e3 ?e4
  (case hroom => decide); (case hb => exact BindsTo.of_eq rfl); (case hloc => exact locs rfl)
  (case e1 => exact rfl); (case e2 => exact rfl); (case e3 => exact rfl); (case e4 => decide)
  intro L' h₁ F' N' hL'; (try dsimp only); (show wpAny _ _ _ _ _ _); k_fold
  ((try ((with_reducible show wpAny _ _ (execs _ _) _ _ _); (fail_if_success (with_reducible show wpAny _ _ _ Qh _ _)); refine hideQ ?_; intro Qh hQh)); repeat' ((fail_if_success (with_reducible show wpAny _ _ (exec (PySem.Stmt.Assign _ (PySem.Expr.ListComp _ _ _ _) _) _) _ _ _)); (fail_if_success (with_reducible show wpAny _ _ (exec (PySem.Stmt.For _ _ _ _ _) _) _ _ _)); (fail_if_success (with_reducible show wpAny _ _ (eval (PySem.Expr.ListComp _ _ _ _) _) _ _ _)); (first | walk1 | (dsimp only; walk1) | (with_reducible apply Hid.use; with_reducible assumption))))
  try k_unfold
  (try (with_reducible apply Hid.use; with_reducible assumption)); (try dsimp only)
  rename News _ _ _ _ => N4
  rename Fr _ _ _ _ => F4
  have hz := N4.get (.head _)
  have e : Txt.slice tx (some ([(i : Int)].getD (Int.toNat 0) 0)) (some ([(i : Int)].getD (Int.toNat 0) 0 + 1)) = chAt tx i := slice_ch hi
  rw [e] at hz ⊢
  have e2 : [(i : Int)].getD (Int.toNat 0) 0 + ((chAt tx i).length : Int) = ((min (i + 1) tx.length : Nat) : Int) := by
    have := chAt_len hi
    show (i : Int) + _ = _
    omega
  rw [e2] at hz
  exact h _ _ _ _ F4.keep hz

end
/-! C_read -/
section
set_option genInjectivity false in
set_option genSizeOfSpec false in
/-- the lexer and what it reads from: its addresses, the text -/
structure Lx where
  x : Addr
  dx : Addr
  pb : Addr
  y : Addr
  dy : Addr
  qb : Addr
  f : Addr
  c : Addr
  ct : Addr
  cs : Addr
  sp : Addr
  t1 : Tok
  t2 : Tok
  t3 : Tok
  t4 : Tok
  tw : Tok
  r1 : Tok
  r2 : Tok
  r3 : Tok
  r4 : Tok
  r5 : Tok
  rl : Tok
  rw : Tok
  tx : Str
  tt : Tok
  fo : Obj
  oc : Obj
  oT : Obj
  oS : Obj
  qual : Str
  doc : Value
  pm : Value
  ctv : Value
  nm : Str
  ps : Arguments
  bd : List Stmt
  sc : Scope
/-- the lexer's dict -/
abbrev Lx.dO (a : Lx) (w : World) (l : Nat) (tl : Tok) : Obj :=
  W.dictOf [ent w "lineno" a.t1 (.int (l : Int) tl), ent w "instream" a.t2 (.ref a.y), ent w "whitespace" a.t3 (.str (Str.ofString "\n\t\r ") a.tw), ent w "pushback" a.t4 (.ref a.pb)] 4
abbrev Lx.eO (a : Lx) (w : World) : Obj :=
  W.dictOf [ent w "lineno" a.r1 (.int 1 a.rl), ent w "instream" a.r2 .none, ent w "whitespace" a.r3 (.str (Str.ofString "\n\t\r ") a.rw), ent w "pushback" a.r4 (.ref a.qb), ent w "read" a.r5 (.ref a.f)] 5
/-- the line of a place -/
noncomputable def lineAt (x : Str) (i : Nat) : Nat := 1 + (x.cps.toList.take i).count 10
/-- what stands of the lexer when the reader is at place i -/
noncomputable def Lx.M (a : Lx) (w : World) (i : Nat) (tl ti : Tok) : List (Addr × Obj) :=
  [(a.dx, a.dO w (lineAt a.tx i) tl), (a.sp, W.listOf #[Value.int (i : Int) ti] 0), (a.x, W.instObj 103 a.dx), (a.y, W.instObj 103 a.dy), (a.dy, a.eO w), (a.f, a.fo), (a.c, a.oc), (a.cs, a.oS), (a.ct, a.oT)]
structure Lx.Ok (a : Lx) (w : World) : Prop where
  pick : pickDef (bodyAt (hd.heap_1 w.params) 135) = some (a.nm, a.ps, a.bd, a.sc)
  fo : a.fo.data = .func (fnX a.nm a.qual a.ps a.bd a.sc [(Str.ofString "text", a.ct), (Str.ofString "spot", a.cs)] .none .none a.doc a.pm none (.ref a.c) a.ctv)
  oc : ∃ vs t, a.oc.data = .fields vs ∧ vs[1]? = some (.str a.qual t)
  oT : a.oT.data = .cell (some (.str a.tx a.tt))
  oS : a.oS.data = .cell (some (.ref a.sp))
  len : a.tx.length ≤ 5000
  d1 : @Ne Nat a.dx a.sp
  d2 : @Ne Nat a.dx a.x
  d3 : @Ne Nat a.dx a.y
  d4 : @Ne Nat a.dx a.dy
  d5 : @Ne Nat a.dx a.f
  d6 : @Ne Nat a.dx a.c
  d7 : @Ne Nat a.dx a.cs
  d8 : @Ne Nat a.dx a.ct
  s2 : @Ne Nat a.sp a.x
  s3 : @Ne Nat a.sp a.y
  s4 : @Ne Nat a.sp a.dy
  s5 : @Ne Nat a.sp a.f
  s6 : @Ne Nat a.sp a.c
  s7 : @Ne Nat a.sp a.cs
  s8 : @Ne Nat a.sp a.ct
/-- back from a call that changed one object -/
theorem back1 {h₀ h h' : Heap} {L : Addr} {m : Str → Option Value} {news : List (Addr × Obj)} {d : Addr} {o o' : Obj} (F : Fr h₀ L h m) (N : News h₀ L h news) (hm : (d, o) ∈ news) (st : (hidden h [(d, o)]).StaysIn h') (e : h'.get? d = some o')
    (news' : List (Addr × Obj)) (hs : ∀ p ∈ news', p = (d, o') ∨ (p ∈ news ∧ @Ne Nat p.1 d)) : Fr h₀ L h' m ∧ News h₀ L h' news' :=
  back [(d, o)] [(d, o')] [] F N (fun p hp => by rcases List.mem_singleton.mp hp with rfl; exact hm) st (fun p hp => by rcases List.mem_singleton.mp hp with rfl; exact e) (fun p hp => by rcases List.mem_singleton.mp hp with rfl; exact ⟨o, .head _⟩) (fun p hp => nomatch hp) news'
    (fun p hp => by
      rcases hs p hp with rfl | ⟨h1, h2⟩
      · exact .inl (.head _)
      · exact .inr (.inr ⟨h1, fun q => h2 (List.mem_singleton.mp q)⟩))
theorem line_step {x : Str} {i : Nat} : lineAt x (min (i + 1) x.length) = if chAt x i = Str.ofString "\n" then lineAt x i + 1 else lineAt x i := by
  unfold lineAt
  by_cases q : i < x.length
  · rw [show min (i + 1) x.length = i + 1 by omega]
    have hg : x.cps.toList[i]? = some (x.cps[i]'q) := by rw [Array.getElem?_toList]; exact Array.getElem?_eq_getElem q
    rw [List.take_add_one, hg, List.count_append, chAt_lt hg]
    have e : (⟨#[x.cps[i]'q]⟩ : Str) = Str.ofString "\n" ↔ x.cps[i]'q = 10 := by
      have : Str.ofString "\n" = ⟨#[10]⟩ := by decide +kernel
      rw [this]
      constructor
      · intro h; injection h with h; simpa using h
      · intro h; rw [h]
    by_cases q2 : x.cps[i]'q = 10
    · rw [if_pos (e.mpr q2), q2]; simp; omega
    · rw [if_neg (fun z => q2 (e.mp z))]
      simp [List.count_cons, q2]
  · have hl : x.cps.toList.length ≤ i := by rw [Array.length_toList]; show x.length ≤ i; omega
    have hl2 : x.cps.toList.length ≤ min (i + 1) x.length := by rw [Array.length_toList]; show x.length ≤ _; omega
    rw [chAt_end (by omega), if_neg (by decide +kernel), List.take_of_length_le hl, List.take_of_length_le hl2]
theorem fnAt_of {h : Heap} {q : Addr} {o : Obj} {fd : FuncData} (e : h.get? q = some o) (d : o.data = .func fd) : FnAt q h := by
  obtain ⟨oc, od, dd, sl⟩ := o
  cases d
  exact ⟨_, _, _, _, e⟩
theorem c_read {prog : Program} {w : World} {A : Around} {s : Shared} {R : Result → Shared → Prop} {p : Program} {loose : List Str} {mg mb : Str → Option Value}
    (h1 : A.handled = none) (h2 : A.depth ≤ 650) (h3 : A.units ≤ 350) {a : Lx} {i : Nat} {tl ti : Tok} (ok : a.Ok w) (hi : i ≤ a.tx.length) (hM : ∀ p ∈ a.M w i tl ti, s.heap.get? p.1 = some p.2)
    (X : (hd.heap_1 w.params).In (hidden s.heap (a.M w i tl ti))) (T : TopRead p loose mg mb (hidden s.heap (a.M w i tl ti)))
    (h : ∀ h' tk tv tl' ti', (hidden s.heap (a.M w i tl ti)).StaysIn h' → (∀ p ∈ a.M w (min (i + 1) a.tx.length) tl' ti', h'.get? p.1 = some p.2) →
      R (.ok (.ret (.str (chAt a.tx i) tv))) { s with heap := h', toks := tk }) :
    codeAny (model prog w) A (.call (.ref 86) ⟨[.ref a.x], []⟩) R s := by
  obtain ⟨pick, fo, ⟨vs, tq, oc1, oc2⟩, oT, oS, len, d1, d2, d3, d4, d5, d6, d7, d8, s2, s3, s4, s5, s6, s7, s8⟩ := ok
  refine code_weak (d := 650) (u := 350) (by assumption) (by assumption) (by assumption) ?_
  refine' enter (by assumption) (TopRead.nolimit (by assumption)) (fun _ _ e => of_hideAll _ e) (Nat.le_of_eq (hideAll_size _ _)) (enterM_news hM) ?ho ?hcd ?hroom ?hb ?hloc ?_ ?e1 ?e2 ?e3 ?e4
  (case ho => k_is); (case hcd => k_is); (case hroom => decide); (case hb => exact BindsTo.of_eq rfl); (case hloc => exact locs rfl)
  (case e1 => exact rfl); (case e2 => exact rfl); (case e3 => exact rfl); (case e4 => decide)
  intro L' h₁ F' N' hL'; (try dsimp only); (show wpAny _ _ _ _ _ _); k_fold
  unfold hidden at X T h
  generalize hg : hideAll s.heap (List.map (fun x => x.fst) (a.M w i tl ti)) = g at *
  have hh : ∀ h' tk tv l tl' ti', g.StaysIn h' → lineAt a.tx (min (i + 1) a.tx.length) = l → News g L' h' [(a.dx, a.dO w l tl'), (a.sp, W.listOf #[Value.int ((min (i + 1) a.tx.length : Nat) : Int) ti'] 0), (a.x, W.instObj 103 a.dx), (a.y, W.instObj 103 a.dy), (a.dy, a.eO w), (a.f, a.fo), (a.c, a.oc), (a.cs, a.oS), (a.ct, a.oT)] →
      R (.ok (.ret (.str (chAt a.tx i) tv))) { s with heap := h', toks := tk } := by
    intro h' tk tv l tl' ti' st e N
    subst e
    exact h h' tk tv tl' ti' st fun p hp => (N p hp).1
  dsimp only [Lx.M, Lx.dO, Lx.eO] at N'
  ((try ((with_reducible show wpAny _ _ (execs _ _) _ _ _); (fail_if_success (with_reducible show wpAny _ _ _ Qh _ _)); refine hideQ ?_; intro Qh hQh)); repeat' ((fail_if_success (with_reducible show wpAny _ _ (exec (PySem.Stmt.Assign _ (PySem.Expr.ListComp _ _ _ _) _) _) _ _ _)); (fail_if_success (with_reducible show wpAny _ _ (exec (PySem.Stmt.For _ _ _ _ _) _) _ _ _)); (fail_if_success (with_reducible show wpAny _ _ (eval (PySem.Expr.ListComp _ _ _ _) _) _ _ _)); (fail_if_success (with_reducible show wpAny _ _ (callWith _ (Value.ref (Lx.f _)) _ _ _) _ _ _)); (fail_if_success (with_reducible show wpAny _ _ (call (Value.ref _) _ _) _ _ _)); (first | walk1 | (dsimp only; walk1) | (with_reducible apply Hid.use; with_reducible assumption))))
  (try (with_reducible apply Hid.use; with_reducible assumption)); (try dsimp only)
  rename Fr _ _ _ _ => F1
  rename News _ _ _ _ => N1
  refine callWith_F (fnAt_of (N1.get (.tail _ (.tail _ (.tail _ (.tail _ (.tail _ (.head _))))))) fo) ?_
  ((try ((with_reducible show wpAny _ _ (execs _ _) _ _ _); (fail_if_success (with_reducible show wpAny _ _ _ Qh _ _)); refine hideQ ?_; intro Qh hQh)); repeat' ((fail_if_success (with_reducible show wpAny _ _ (exec (PySem.Stmt.Assign _ (PySem.Expr.ListComp _ _ _ _) _) _) _ _ _)); (fail_if_success (with_reducible show wpAny _ _ (exec (PySem.Stmt.For _ _ _ _ _) _) _ _ _)); (fail_if_success (with_reducible show wpAny _ _ (eval (PySem.Expr.ListComp _ _ _ _) _) _ _ _)); (fail_if_success (with_reducible show wpAny _ _ (callWith _ (Value.ref (Lx.f _)) _ _ _) _ _ _)); (fail_if_success (with_reducible show wpAny _ _ (call (Value.ref _) _ _) _ _ _)); (first | walk1 | (dsimp only; walk1) | (with_reducible apply Hid.use; with_reducible assumption))))
  · exact fnAt_of (N1.get (.tail _ (.tail _ (.tail _ (.tail _ (.tail _ (.head _))))))) fo
  refine wpAny_call (c_next (i := i) (n := 0) (ti := ti) (sp := a.sp) (ct := a.ct) (cs := a.cs) rfl (Nat.le_of_ble_eq_true rfl) (Nat.le_of_ble_eq_true rfl) pick
    (fun p hp => by rcases List.mem_singleton.mp hp with rfl; exact N1.get (.tail _ (.head _)))
    (X.keeps (hidden_keep F1.keep fun p hp => by rcases List.mem_singleton.mp hp with rfl; exact (N1 _ (.tail _ (.head _))).2.2))
    (T.keeps (hidden_keep F1.keep fun p hp => by rcases List.mem_singleton.mp hp with rfl; exact (N1 _ (.tail _ (.head _))).2.2))
    (N1.get (.tail _ (.tail _ (.tail _ (.tail _ (.tail _ (.head _))))))) fo ⟨a.c, a.oc, vs, tq, rfl, N1.get (.tail _ (.tail _ (.tail _ (.tail _ (.tail _ (.tail _ (.head _))))))), oc1, oc2⟩
    (hidden_get (N1.get (.tail _ (.tail _ (.tail _ (.tail _ (.tail _ (.tail _ (.tail _ (.tail _ (.head _)))))))))) (fun q => s8 (List.mem_singleton.mp q).symm)) oT
    (hidden_get (N1.get (.tail _ (.tail _ (.tail _ (.tail _ (.tail _ (.tail _ (.tail _ (.head _))))))))) (fun q => s7 (List.mem_singleton.mp q).symm)) oS len hi ?_)
  intro h2 tk2 tv ti' st e1
  (try (with_reducible apply Hid.use; with_reducible assumption)); (try dsimp only)
  obtain ⟨F2, N2⟩ := back1 F1 N1 (.tail _ (.head _)) st e1 [(a.dx, _), (a.sp, _), (a.x, _), (a.y, _), (a.dy, _), (a.f, _), (a.c, _), (a.cs, _), (a.ct, _)] (by
    intro p hp
    simp only [List.mem_cons, List.not_mem_nil, or_false] at hp
    rcases hp with rfl | rfl | rfl | rfl | rfl | rfl | rfl | rfl | rfl
    · exact .inr ⟨.head _, d1⟩
    · exact .inl rfl
    · exact .inr ⟨.tail _ (.tail _ (.head _)), s2.symm⟩
    · exact .inr ⟨.tail _ (.tail _ (.tail _ (.head _))), s3.symm⟩
    · exact .inr ⟨.tail _ (.tail _ (.tail _ (.tail _ (.head _)))), s4.symm⟩
    · exact .inr ⟨.tail _ (.tail _ (.tail _ (.tail _ (.tail _ (.head _))))), s5.symm⟩
    · exact .inr ⟨.tail _ (.tail _ (.tail _ (.tail _ (.tail _ (.tail _ (.head _)))))), s6.symm⟩
    · exact .inr ⟨.tail _ (.tail _ (.tail _ (.tail _ (.tail _ (.tail _ (.tail _ (.head _))))))), s7.symm⟩
    · exact .inr ⟨.tail _ (.tail _ (.tail _ (.tail _ (.tail _ (.tail _ (.tail _ (.tail _ (.head _)))))))), s8.symm⟩)
  clear F1 N1
  ((try ((with_reducible show wpAny _ _ (execs _ _) _ _ _); (fail_if_success (with_reducible show wpAny _ _ _ Qh _ _)); refine hideQ ?_; intro Qh hQh)); repeat' ((fail_if_success (with_reducible show wpAny _ _ (exec (PySem.Stmt.Assign _ (PySem.Expr.ListComp _ _ _ _) _) _) _ _ _)); (fail_if_success (with_reducible show wpAny _ _ (exec (PySem.Stmt.For _ _ _ _ _) _) _ _ _)); (fail_if_success (with_reducible show wpAny _ _ (eval (PySem.Expr.ListComp _ _ _ _) _) _ _ _)); (fail_if_success (with_reducible show wpAny _ _ (callWith _ (Value.ref (Lx.f _)) _ _ _) _ _ _)); (fail_if_success (with_reducible show wpAny _ _ (call (Value.ref _) _ _) _ _ _)); (first | walk1 | (dsimp only; walk1) | (with_reducible apply Hid.use; with_reducible assumption))))
  · try dsimp only
    try k_unfold
    (try (with_reducible apply Hid.use; with_reducible assumption)); (try dsimp only)
    rename News _ _ _ _ => N3
    rename Fr _ _ _ _ => F3
    rename (_ == _) = true => q
    have hl : lineAt a.tx (min (i + 1) a.tx.length) = lineAt a.tx i + 1 := by rw [line_step, if_pos (eq_of_beq q)]
    exact hh _ _ _ (lineAt a.tx i + 1) _ _ F3.keep hl N3
  · try dsimp only
    try k_unfold
    (try (with_reducible apply Hid.use; with_reducible assumption)); (try dsimp only)
    rename News _ _ _ _ => N3
    rename Fr _ _ _ _ => F3
    rename (_ == _) = false => q
    have hl : lineAt a.tx (min (i + 1) a.tx.length) = lineAt a.tx i := by rw [line_step, if_neg (fun z => by rw [z] at q; simp at q)]
    exact hh _ _ _ (lineAt a.tx i) _ _ F3.keep hl N3

end
/-! C_lex -/
section
/-- what is left of a text from a place on -/
noncomputable def Rem (x : Str) (i : Nat) (l : List Nat) : Prop := i ≤ x.length ∧ x.cps.toList.drop i = l
theorem Rem.cons {x : Str} {i c : Nat} {l : List Nat} (h : Rem x i (c :: l)) : i < x.length ∧ chAt x i = ⟨#[c]⟩ ∧ Rem x (min (i + 1) x.length) l := by
  obtain ⟨h1, h2⟩ := h
  have hl : i < x.cps.toList.length := by
    refine Classical.byContradiction fun q => ?_
    rw [List.drop_of_length_le (by omega)] at h2; cases h2
  have hl' : i < x.length := by rw [Array.length_toList] at hl; exact hl
  refine ⟨hl', ?_, by omega, ?_⟩
  · unfold chAt; rw [h2]; rfl
  · rw [show min (i + 1) x.length = i + 1 by omega, ← List.drop_drop, h2]; rfl
theorem Rem.nil {x : Str} {i : Nat} (h : Rem x i []) : i = x.length ∧ chAt x i = ⟨#[]⟩ := by
  obtain ⟨h1, h2⟩ := h
  have : x.cps.toList.length ≤ i := by simpa using h2
  rw [Array.length_toList] at this
  exact ⟨Nat.le_antisymm h1 this, chAt_end this⟩
theorem Lx.M_keys {a : Lx} {w : World} {i j : Nat} {tl ti tl' ti' : Tok} : (a.M w i tl ti).map (·.1) = (a.M w j tl' ti').map (·.1) := rfl
section
variable {prog : Program} {w : World} {A : Around} {s : Shared} {g : Heap} {L : Addr} {m : Str → Option Value} {rest : List (Addr × Obj)} {p : Program} {loose : List Str} {mg mb : Str → Option Value}
theorem read_call {a : Lx} {i : Nat} {tl ti : Tok} {R : Result → Shared → Prop} (ok : a.Ok w) (hi : i ≤ a.tx.length) (h1 : A.handled = none) (h2 : A.depth ≤ 650) (h3 : A.units ≤ 350) (X : (hd.heap_1 w.params).In g) (T : TopRead p loose mg mb g)
    (F : Fr g L s.heap m) (N : News g L s.heap (a.M w i tl ti ++ rest)) (hr : ∀ p ∈ rest, p.1 ∉ (a.M w i tl ti).map (·.1))
    (h : ∀ h' tk tv tl' ti', Fr g L h' m → News g L h' (a.M w (min (i + 1) a.tx.length) tl' ti' ++ rest) → R (.ok (.ret (.str (chAt a.tx i) tv))) { s with heap := h', toks := tk }) :
    codeAny (model prog w) A (.call (.ref 86) ⟨[.ref a.x], []⟩) R s := by
  refine c_read h1 h2 h3 ok hi (fun p hp => (N p (List.mem_append_left _ hp)).1) (X.keeps (hidden_keep F.keep fun p hp => (N p (List.mem_append_left _ hp)).2.2)) (T.keeps (hidden_keep F.keep fun p hp => (N p (List.mem_append_left _ hp)).2.2)) ?_
  intro h' tk tv tl' ti' st e
  obtain ⟨F2, N2⟩ := back (a.M w i tl ti) (a.M w (min (i + 1) a.tx.length) tl' ti') [] F N (fun p hp => List.mem_append_left _ hp) st e
    (fun p hp => by
      have : p.1 ∈ (a.M w i tl ti).map (·.1) := by rw [Lx.M_keys (j := min (i + 1) a.tx.length) (tl' := tl') (ti' := ti')]; exact List.mem_map.mpr ⟨p, hp, rfl⟩
      obtain ⟨q, hq, e⟩ := List.mem_map.mp this
      exact ⟨q.2, by rw [← e]; exact hq⟩)
    (fun p hp => nomatch hp) (a.M w (min (i + 1) a.tx.length) tl' ti' ++ rest) (fun p hp => by
      rcases List.mem_append.mp hp with hp | hp
      · exact .inl hp
      · exact .inr (.inr ⟨List.mem_append_right _ hp, hr p hp⟩))
  exact h h' tk tv tl' ti' F2 N2
/-- what a turn of a loop over the reader leaves -/
noncomputable def TurnCi (a : Lx) (w : World) (g : Heap) (L : Addr) (rest : List (Addr × Obj)) (J : Nat → Nat → (Str → Option Value) → Prop) (n : Nat) (Q : Flow → Shared → Prop) (s : Shared) (f : Flow) (s' : Shared) : Prop :=
  match f with
  | .ret v => Q (.ret v) s'
  | .brk => Q .next s'
  | _ => ∃ n' i' h' tk m' tl ti, n' < n ∧ s' = { s with heap := h', toks := tk } ∧ Fr g L h' m' ∧ News g L h' (a.M w i' tl ti ++ rest) ∧ J n' i' m'
theorem TurnCi.next {a : Lx} {J : Nat → Nat → (Str → Option Value) → Prop} {n : Nat} {Q : Flow → Shared → Prop} {h' : Heap} {tk : Nat} {m' : Str → Option Value} (n' i' : Nat) (hn : n' < n) (tl ti : Tok) (F : Fr g L h' m') (N : News g L h' (a.M w i' tl ti ++ rest)) (hJ : J n' i' m') :
    TurnCi a w g L rest J n Q s .next { s with heap := h', toks := tk } := ⟨n', i', h', tk, m', tl, ti, hn, rfl, F, N, hJ⟩
theorem TurnCi.cont {a : Lx} {J : Nat → Nat → (Str → Option Value) → Prop} {n : Nat} {Q : Flow → Shared → Prop} {h' : Heap} {tk : Nat} {m' : Str → Option Value} (n' i' : Nat) (hn : n' < n) (tl ti : Tok) (F : Fr g L h' m') (N : News g L h' (a.M w i' tl ti ++ rest)) (hJ : J n' i' m') :
    TurnCi a w g L rest J n Q s .cont { s with heap := h', toks := tk } := ⟨n', i', h', tk, m', tl, ti, hn, rfl, F, N, hJ⟩
theorem for_ci {env : Env} {x : Str} {px : Pos} {body : List Stmt} {Q : Flow → Shared → Prop} {E : Value → Shared → Prop} {a : Lx} {it q : Addr} {z : Str} {t : Tok} {rest' : List (Addr × Obj)} {i : Nat} {tl ti : Tok}
    (J : Nat → Nat → (Str → Option Value) → Prop) (n : Nat) (ok : a.Ok w) (h1 : A.handled = none) (h2 : A.depth ≤ 649) (h3 : A.units ≤ 349) (X : (hd.heap_1 w.params).In g) (T : TopRead p loose mg mb g) (hf : ∃ o fd, g.get? 86 = some o ∧ o.data = .func fd)
    (F : Fr g env.locals s.heap m) (N : News g env.locals s.heap (a.M w i tl ti ++ ((it, ciObj (.ref q) z t) :: (q, methodObj (.ref 86) (.ref a.x)) :: rest'))) (hz : z = ⟨#[]⟩)
    (hr : ∀ p ∈ ((it, ciObj (.ref q) z t) :: (q, methodObj (.ref 86) (.ref a.x)) :: rest'), p.1 ∉ (a.M w 0 0 0).map (·.1))
    (hr2 : ∀ p ∈ rest', @Ne Nat p.1 it) (hJi : ∀ n i m, J n i m → i ≤ a.tx.length) (h0 : J n i m)
    (turn : ∀ n i m h tk tl ti tv, J n i m → i < a.tx.length → Fr g env.locals h (fun y => if y = x then some (.str (chAt a.tx i) tv) else m y) → News g env.locals h (a.M w (min (i + 1) a.tx.length) tl ti ++ ((it, ciObj (.ref q) z t) :: (q, methodObj (.ref 86) (.ref a.x)) :: rest')) →
      wpAny (model prog w) A (execs body env) (TurnCi a w g env.locals ((it, ciObj (.ref q) z t) :: (q, methodObj (.ref 86) (.ref a.x)) :: rest') J n Q s) (fun _ _ => False) { s with heap := h, toks := tk })
    (done : ∀ n m h tk tl ti, J n a.tx.length m → Fr g env.locals h m → News g env.locals h (a.M w a.tx.length tl ti ++ rest') → Q .next { s with heap := h, toks := tk })
    (hx : env.kindOf x = some .local := by rfl) (hp : (env.scope.kind == .class || (env.scope.kind == .module && env.locals != env.globals)) = false := by rfl) :
    ForAt prog w A env (.Name x px) body [] Q E (.ref it) s := by
  unfold ForAt
  have mIt : (it, ciObj (.ref q) z t) ∈ ((it, ciObj (.ref q) z t) :: (q, methodObj (.ref 86) (.ref a.x)) :: rest') := .head _
  have mQ : (q, methodObj (.ref 86) (.ref a.x)) ∈ ((it, ciObj (.ref q) z t) :: (q, methodObj (.ref 86) (.ref a.x)) :: rest') := .tail _ (.head _)
  refine ci_iter (News.get N (List.mem_append_right _ mIt)) ?_
  refine codeAny_mono (codeAny_forLoop (R := fun r s' => match r with | .ok f => Q f s' | .error _ => False)
    (fun n s' => Ex6 fun i h tk m tl ti => A4 (s' = { s with heap := h, toks := tk }) (Fr g env.locals h m) (News g env.locals h (a.M w i tl ti ++ ((it, ciObj (.ref q) z t) :: (q, methodObj (.ref 86) (.ref a.x)) :: rest'))) (J n i m)) ?_ n
    ⟨i, s.heap, s.toks, m, tl, ti, rfl, F, N, h0⟩) (fun r s' hr => by cases r with | ok f => exact hr | error e => exact hr.elim)
  rintro n s' ⟨i, h, tk, m, tl, ti, rfl, F, N, hJ⟩
  refine ci_next h1 (News.get N (List.mem_append_right _ mIt)) (News.get N (List.mem_append_right _ mQ)) (let ⟨o, fd, e1, e2⟩ := hf; ⟨o, fd, F.keep _ _ e1, e2⟩) ?_
  refine read_call ok (hJi _ _ _ hJ) h1 (Nat.le_trans h2 (by decide)) (Nat.succ_le_succ h3) X T F N hr ?_
  intro h' tk' tv tl' ti' F' N'
  refine ⟨News.get N' (List.mem_append_right _ mIt), ?_⟩
  by_cases e : i < a.tx.length
  · have hc : a.tx.cps.toList[i]? = some (a.tx.cps[i]'e) := by rw [Array.getElem?_toList]; exact Array.getElem?_eq_getElem e
    rw [if_neg (by rw [chAt_lt hc, hz]; intro q; injection q with q; simpa using congrArg Array.size q)]
    refine wpAny_assign_Name (wpAny_storeName_local hx F'.ns (fun h₂ hn₂ hs₂ => ?_) hp)
    have F₂ := F'.set hn₂ hs₂
    have N₂ := N'.set hs₂
    refine wpAny_mono (turn n i m h₂ _ tl' ti' tv hJ e F₂ N₂) (fun f s₃ h₃ => ?_) fun _ _ e => e.elim
    cases f with
    | ret v => exact h₃
    | brk => exact h₃
    | next => obtain ⟨n', i', h', tk, m', tl, ti, hn, rfl, F, N, hJ⟩ := h₃; exact ⟨n', hn, i', h', tk, m', tl, ti, rfl, F, N, hJ⟩
    | cont => obtain ⟨n', i', h', tk, m', tl, ti, hn, rfl, F, N, hJ⟩ := h₃; exact ⟨n', hn, i', h', tk, m', tl, ti, rfl, F, N, hJ⟩
  · have hi : i = a.tx.length := Nat.le_antisymm (hJi _ _ _ hJ) (Nat.not_lt.mp e)
    subst hi
    rw [if_pos (by rw [chAt_end (Nat.le_refl _), hz])]
    refine ⟨News.get N' (List.mem_append_right _ mQ), (let ⟨o, fd, e1, e2⟩ := hf; ⟨o, fd, F'.keep _ _ e1, e2⟩), fun h₂ hx => wpAny_execs_nil ?_⟩
    have fI := (N' _ (List.mem_append_right _ mIt)).2
    rw [show min (a.tx.length + 1) a.tx.length = a.tx.length by omega] at N'
    refine done n m h₂ tk' tl' ti' hJ ⟨F'.ns.at' fun o e => hx _ o (Ne.symm fI.1) e, fun b o e => hx b o (fun q => ?_) (F'.keep b o e), F'.above⟩ fun p hp => ?_
    · rw [q, fI.2] at e; cases e
    · rcases List.mem_append.mp hp with hp | hp
      · have z := N' p (List.mem_append_left _ hp)
        refine ⟨hx _ _ (fun q => ?_) z.1, z.2⟩
        have := hr _ mIt
        exact this (by rw [Lx.M_keys (j := a.tx.length) (tl' := tl') (ti' := ti')]; exact List.mem_map.mpr ⟨p, hp, q⟩)
      · have z := N' p (List.mem_append_right _ (.tail _ (.tail _ hp)))
        exact ⟨hx _ _ (hr2 p hp) z.1, z.2⟩
end

end
/-! C_get -/
section
theorem eq_known {prog : Program} {w : World} {A : Around} {E : Value → Shared → Prop} {s : Shared} {x y : Str} {t u : Tok} {b : Bool} {Q : Value → Shared → Prop} (e : (x == y) = b) (h : Q (.bool b) s) : wpAny (model prog w) A (compareOp .Eq (.str x t) (.str y u)) Q E s :=
  PyProof.Rows.eq_str (by rw [e]; exact h)
theorem in_known {prog : Program} {w : World} {A : Around} {E : Value → Shared → Prop} {s : Shared} {x : Str} {c : Nat} {t u : Tok} {b : Bool} {Q : Value → Shared → Prop} (e : decide (c ∈ x.cps.toList) = b) (h : Q (.bool b) s) : wpAny (model prog w) A (compareOp .In (.str ⟨#[c]⟩ u) (.str x t)) Q E s :=
  in_char (by rw [e]; exact h)
local macro_rules | `(tactic| walk_at "compareOp Eq str str") => `(tactic| ((with_reducible show wpAny _ _ (compareOp PySem.CmpOp.Eq (Value.str _ _) (Value.str _ _)) _ _ _); k_dflt (first | refine eq_known (b := true) (by with_reducible assumption) ?_ | refine eq_known (b := false) (by with_reducible assumption) ?_)))
local macro_rules | `(tactic| walk_at "compareOp In str str") => `(tactic| ((with_reducible show wpAny _ _ (compareOp PySem.CmpOp.In (Value.str _ _) (Value.str _ _)) _ _ _); k_dflt (first | refine in_known (b := true) (by with_reducible assumption) ?_ | refine in_known (b := false) (by with_reducible assumption) ?_)))
theorem lay_it {g h : Heap} {L : Addr} {a b c : Addr × Obj} {Ms : List (Addr × Obj)} (N : News g L h (a :: b :: (Ms ++ [c]))) : News g L h (Ms ++ (a :: b :: [c])) :=
  N.perm fun p hp => by
    simp only [List.mem_append, List.mem_cons, List.not_mem_nil, or_false] at hp ⊢
    rcases hp with h | h | h | h
    · exact .inr (.inr (.inl h))
    · exact .inl h
    · exact .inr (.inl h)
    · exact .inr (.inr (.inr h))
theorem drop_it {g h : Heap} {L : Addr} {a b c : Addr × Obj} {Ms : List (Addr × Obj)} (N : News g L h (Ms ++ (a :: b :: [c]))) : News g L h (Ms ++ [c]) :=
  N.perm fun p hp => by
    simp only [List.mem_append, List.mem_cons, List.not_mem_nil, or_false] at hp ⊢
    rcases hp with h | h
    · exact .inl h
    · exact .inr (.inr (.inr h))
theorem chr_qt {c : Nat} : ((⟨#[c]⟩ : Str) == Str.ofString "\"") = decide (c = 34) := by
  have : Str.ofString "\"" = ⟨#[34]⟩ := by decide +kernel
  rw [this, Bool.eq_iff_iff, beq_iff_eq, decide_eq_true_iff]
  exact ⟨fun h => by injection h with h; simpa using h, fun h => by rw [h]⟩
theorem chr_bs {c : Nat} : ((⟨#[c]⟩ : Str) == Str.ofString "\\") = decide (c = 92) := by
  have : Str.ofString "\\" = ⟨#[92]⟩ := by decide +kernel
  rw [this, Bool.eq_iff_iff, beq_iff_eq, decide_eq_true_iff]
  exact ⟨fun h => by injection h with h; simpa using h, fun h => by rw [h]⟩
theorem white_mem {c : Nat} : c ∈ (Str.ofString "\n\t\r ").cps.toList ↔ White c := by
  have e : (Str.ofString "\n\t\r ").cps.toList = [10, 9, 13, 32] := by decide +kernel
  rw [e]; simp [White]
theorem ci_makeK {prog : Program} {w : World} {A : Around} {E : Value → Shared → Prop} {s : Shared} {g : Heap} {L : Addr} {m : Str → Option Value} {news : List (Addr × Obj)} {q : Addr} {f self : Value} {z : Str} {t : Tok} {Q : Value → Shared → Prop}
    (F : Fr g L s.heap m) (N : News g L s.heap news) (hq : (q, methodObj f self) ∈ news)
    (h : ∀ it h', Fr g L h' m → News g L h' ((it, ciObj (.ref q) z t) :: news) → (∀ p ∈ news, @LT.lt Nat _ p.1 it) → Q (.ref it) { s with heap := h' }) : wpAny (model prog w) A (call (.builtin "iter") [.ref q, .str z t]) Q E s :=
  ci_make (News.get N hq) (h _ _ (F.push _) (N.push F _) fun p hp => Heap.lt_size (N p hp).1)
inductive Lexed : List Nat → List Nat → List Nat → Prop
  | skip {c : Nat} {r t o : List Nat} (h : White c) (k : Lexed r t o) : Lexed (c :: r) t o
  | quoted {es : Es} {o : List Nat} (h : QOk es) : Lexed (34 :: (enc es ++ 34 :: o)) (plain es) o
  | bare {e : Bool × Nat} {es : Es} {c : Nat} {o : List Nat} (h : BOk (e :: es)) (k : White c) : Lexed (enc (e :: es) ++ c :: o) (plain (e :: es)) o
  | done : Lexed [] [] []
theorem lexed_nil {l t o : List Nat} (h : Lexed l t o) (e : l = []) : t = [] ∧ o = [] := by
  cases h with
  | skip _ _ => cases e
  | quoted _ => cases e
  | bare _ _ => exact absurd (congrArg List.length e) (by simp)
  | done => exact ⟨rfl, rfl⟩
theorem str_nil {U : Str} (h : U.cps.toList = []) : U = ⟨#[]⟩ := by
  cases U with
  | mk a => congr 1; exact Array.toList_inj.mp h
theorem c_get {prog : Program} {w : World} {A : Around} {s : Shared} {R : Result → Shared → Prop} {p : Program} {loose : List Str} {mg mb : Str → Option Value}
    (h1 : A.handled = none) (h2 : A.depth ≤ 600) (h3 : A.units ≤ 300) {a : Lx} {i n : Nat} {tl ti : Tok} {l tok rest : List Nat} (ok : a.Ok w) (okp : a.pb ∉ (a.M w 0 0 0).map (·.1)) (hR : Rem a.tx i l) (hL : Lexed l tok rest)
    (hM : ∀ p ∈ a.M w i tl ti ++ [(a.pb, W.listOf #[] n)], s.heap.get? p.1 = some p.2)
    (X : (hd.heap_1 w.params).In (hidden s.heap (a.M w i tl ti ++ [(a.pb, W.listOf #[] n)]))) (T : TopRead p loose mg mb (hidden s.heap (a.M w i tl ti ++ [(a.pb, W.listOf #[] n)])))
    (h : ∀ h' tk tv tl' ti' j U, (hidden s.heap (a.M w i tl ti ++ [(a.pb, W.listOf #[] n)])).StaysIn h' → (∀ p ∈ a.M w j tl' ti' ++ [(a.pb, W.listOf #[] n)], h'.get? p.1 = some p.2) → Rem a.tx j rest → U.cps.toList = tok →
      R (.ok (.ret (.str U tv))) { s with heap := h', toks := tk }) :
    codeAny (model prog w) A (.call (.ref 93) ⟨[.ref a.x], []⟩) R s := by
  have fo86 : ∃ o fd, (hd.heap_1 w.params).lookup 86 = some o ∧ o.data = .func fd := ⟨_, _, by with_unfolding_all rfl, rfl⟩
  refine code_weak (d := 600) (u := 300) (by assumption) (by assumption) (by assumption) ?_
  refine' enter (by assumption) (TopRead.nolimit (by assumption)) (fun _ _ e => of_hideAll _ e) (Nat.le_of_eq (hideAll_size _ _)) (enterM_news hM) ?ho ?hcd ?hroom ?hb ?hloc ?_ ?e1 ?e2 ?e3 ?e4
  (case ho => k_is); (case hcd => k_is); (case hroom => decide); (case hb => exact BindsTo.of_eq rfl); (case hloc => exact locs rfl)
  (case e1 => exact rfl); (case e2 => exact rfl); (case e3 => exact rfl); (case e4 => decide)
  intro L' h₁ F' N' hL'; (try dsimp only); (show wpAny _ _ _ _ _ _); k_fold
  unfold hidden at X T h
  generalize hg : hideAll s.heap (List.map (fun x => x.fst) (a.M w i tl ti ++ [(a.pb, W.listOf #[] n)])) = g at *
  have hh : ∀ h' tk tv tl' ti' j U m', Fr g L' h' m' → News g L' h' (a.M w j tl' ti' ++ [(a.pb, W.listOf #[] n)]) → Rem a.tx j rest → U.cps.toList = tok → R (.ok (.ret (.str U tv))) { s with heap := h', toks := tk } :=
    fun h' tk tv tl' ti' j U m' F N => h h' tk tv tl' ti' j U F.keep fun p hp => (N p hp).1
  have g86 : ∃ o fd, g.get? 86 = some o ∧ o.data = .func fd := let ⟨o, fd, e1, e2⟩ := fo86; ⟨o, fd, X _ _ e1, e2⟩
  clear fo86 h
  replace F' : Fr g L' h₁ (fun y => List.lookup y [(Str.ofString "self", Value.ref a.x)]) := F'
  dsimp only [Lx.M, Lx.dO, Lx.eO, List.cons_append, List.nil_append] at N'
  ((try ((with_reducible show wpAny _ _ (execs _ _) _ _ _); (fail_if_success (with_reducible show wpAny _ _ _ Qh _ _)); refine hideQ ?_; intro Qh hQh)); repeat' ((fail_if_success (with_reducible show wpAny _ _ (exec (PySem.Stmt.Assign _ (PySem.Expr.ListComp _ _ _ _) _) _) _ _ _)); (fail_if_success (with_reducible show wpAny _ _ (exec (PySem.Stmt.For _ _ _ _ _) _) _ _ _)); (fail_if_success (with_reducible show wpAny _ _ (eval (PySem.Expr.ListComp _ _ _ _) _) _ _ _)); (fail_if_success (with_reducible show wpAny _ _ (call (Value.builtin "iter") _ _) _ _ _)); (fail_if_success (with_reducible show wpAny _ _ (call (Value.ref _) _ _) _ _ _)); (first | walk1 | (dsimp only; walk1) | (with_reducible apply Hid.use; with_reducible assumption))))
  rename_i q _ _ _ l1
  have lQ : ∀ b ∈ (a.M w 0 0 0).map (·.1), @LT.lt Nat _ b q := by
    intro b hb
    simp only [Lx.M, List.map_cons, List.map_nil, List.mem_cons, List.not_mem_nil, or_false] at hb
    obtain ⟨c1, c2, c3, c4, c5, c6, c7, c8, c9, c10⟩ := l1
    rcases hb with rfl | rfl | rfl | rfl | rfl | rfl | rfl | rfl | rfl <;> assumption
  refine ci_makeK (by k_asm) (by k_asm) (by k_mem) ?_
  intro it hI F1 N1 l2
  have lIt : ∀ b ∈ (a.M w 0 0 0).map (·.1), @LT.lt Nat _ b it := fun b hb => Nat.lt_trans (lQ b hb) (l2 _ (.head _))
  have lP : @LT.lt Nat _ a.pb it := Nat.lt_trans l1.2.2.2.2.2.2.2.2.2 (l2 _ (.head _))
  clear l2
  ((try ((with_reducible show wpAny _ _ (execs _ _) _ _ _); (fail_if_success (with_reducible show wpAny _ _ _ Qh _ _)); refine hideQ ?_; intro Qh hQh)); repeat' ((fail_if_success (with_reducible show wpAny _ _ (exec (PySem.Stmt.Assign _ (PySem.Expr.ListComp _ _ _ _) _) _) _ _ _)); (fail_if_success (with_reducible show wpAny _ _ (exec (PySem.Stmt.For _ _ _ _ _) _) _ _ _)); (fail_if_success (with_reducible show wpAny _ _ (eval (PySem.Expr.ListComp _ _ _ _) _) _ _ _)); (fail_if_success (with_reducible show wpAny _ _ (call (Value.builtin "iter") _ _) _ _ _)); (fail_if_success (with_reducible show wpAny _ _ (call (Value.ref _) _ _) _ _ _)); (first | walk1 | (dsimp only; walk1) | (with_reducible apply Hid.use; with_reducible assumption))))
  refine For_ ?_
  ((try ((with_reducible show wpAny _ _ (execs _ _) _ _ _); (fail_if_success (with_reducible show wpAny _ _ _ Qh _ _)); refine hideQ ?_; intro Qh hQh)); repeat' ((fail_if_success (with_reducible show wpAny _ _ (exec (PySem.Stmt.Assign _ (PySem.Expr.ListComp _ _ _ _) _) _) _ _ _)); (fail_if_success (with_reducible show wpAny _ _ (exec (PySem.Stmt.For _ _ _ _ _) _) _ _ _)); (fail_if_success (with_reducible show wpAny _ _ (eval (PySem.Expr.ListComp _ _ _ _) _) _ _ _)); (fail_if_success (with_reducible show wpAny _ _ (call (Value.builtin "iter") _ _) _ _ _)); (fail_if_success (with_reducible show wpAny _ _ (call (Value.ref _) _ _) _ _ _)); (first | walk1 | (dsimp only; walk1) | (with_reducible apply Hid.use; with_reducible assumption))))
  (try (with_reducible apply Hid.use; with_reducible assumption)); (try dsimp only)
  rename News _ _ _ _ => N2
  rename Fr _ _ _ _ => F2
  have hr : ∀ tz, ∀ p ∈ ((it, ciObj (.ref q) (Str.ofString "") tz) :: (q, methodObj (.ref 86) (.ref a.x)) :: [(a.pb, W.listOf #[] n)]), p.1 ∉ (a.M w 0 0 0).map (·.1) := by
    intro tz p hp
    simp only [List.mem_cons, List.not_mem_nil, or_false] at hp
    rcases hp with rfl | rfl | rfl
    · exact fun hm => Nat.lt_irrefl _ (lIt _ hm)
    · exact fun hm => Nat.lt_irrefl _ (lQ _ hm)
    · exact okp
  have hr2 : ∀ p ∈ [(a.pb, W.listOf #[] n)], @Ne Nat p.1 it := by intro p hp; rcases List.mem_singleton.mp hp with rfl; exact Nat.ne_of_lt lP
  refine' for_ci (a := a) (i := i) (tl := tl) (ti := ti) (q := q) (z := Str.ofString "") (t := _) (rest' := [(a.pb, W.listOf #[] n)])
    (fun k j m => Ex3 fun l' U tu => A5 (Rem a.tx j l') (Lexed l' tok rest) (k = l'.length) (U.cps.toList = []) (gotN m [((PySem.Str.ofString "self"), Value.ref a.x), ((PySem.Str.ofString "token"), Value.str U tu), ((PySem.Str.ofString "fiter"), Value.ref it)] = wantN [((PySem.Str.ofString "self"), Value.ref a.x), ((PySem.Str.ofString "token"), Value.str U tu), ((PySem.Str.ofString "fiter"), Value.ref it)]))
    l.length ok rfl (Nat.le_of_ble_eq_true rfl) (Nat.le_of_ble_eq_true rfl) X T g86 F2 (lay_it (Ms := a.M w i tl ti) N2) (by decide +kernel) (hr _) hr2 ?hJi ?h0 ?turn ?done
  case hJi => rintro k j m ⟨l', U, tu, hR', _⟩; exact hR'.1
  case h0 => 
    refine' ⟨l, Str.ofString "", _, hR, hL, rfl, by decide +kernel, ?hm0⟩
    case hm0 =>
     rfl
  case done =>
    rintro k m h' tk' tl' ti' ⟨l', U, tu, hR', hL', hk, hU, hm⟩ F3 N3
    clear F2 N2
    replace F3 := frNamesE' _ F3 hm
    have e1 : l' = [] := by
      have := hR'.2
      rw [List.drop_of_length_le (by rw [Array.length_toList]; exact Nat.le_refl _)] at this
      exact this.symm
    subst e1
    ((try ((with_reducible show wpAny _ _ (execs _ _) _ _ _); (fail_if_success (with_reducible show wpAny _ _ _ Qh _ _)); refine hideQ ?_; intro Qh hQh)); repeat' ((fail_if_success (with_reducible show wpAny _ _ (exec (PySem.Stmt.Assign _ (PySem.Expr.ListComp _ _ _ _) _) _) _ _ _)); (fail_if_success (with_reducible show wpAny _ _ (exec (PySem.Stmt.For _ _ _ _ _) _) _ _ _)); (fail_if_success (with_reducible show wpAny _ _ (eval (PySem.Expr.ListComp _ _ _ _) _) _ _ _)); (fail_if_success (with_reducible show wpAny _ _ (call (Value.builtin "iter") _ _) _ _ _)); (fail_if_success (with_reducible show wpAny _ _ (call (Value.ref _) _ _) _ _ _)); (first | walk1 | (dsimp only; walk1) | (with_reducible apply Hid.use; with_reducible assumption))))
    (try (with_reducible apply Hid.use; with_reducible assumption)); (try dsimp only)
    try k_unfold
    (try (with_reducible apply Hid.use; with_reducible assumption)); (try dsimp only)
    obtain ⟨rfl, rfl⟩ := lexed_nil hL' rfl
    rename Fr _ _ _ _ => F4
    rename News _ _ _ _ => N4
    exact hh _ _ _ tl' ti' _ _ _ F4 N4 hR' hU
  case turn => 
    rintro k j m h' tk' tl' ti' tv ⟨l', U, tu, hR', hL', hk, hU, hm⟩ hj F3 N3
    clear F2 N2
    replace F3 := frNamesE _ F3 hm
    cases hL' with
    | skip hw kL =>
      rename_i c r
      obtain ⟨r1, r2, r3⟩ := hR'.cons
      rw [r2] at F3
      have q3 : decide (c ∈ (Str.ofString "\n\t\r ").cps.toList) = true := decide_eq_true (white_mem.mpr hw)
      dsimp only [Lx.M, Lx.dO, Lx.eO, List.cons_append, List.nil_append] at N3
      ((try ((with_reducible show wpAny _ _ (execs _ _) _ _ _); (fail_if_success (with_reducible show wpAny _ _ _ Qh _ _)); refine hideQ ?_; intro Qh hQh)); repeat' ((fail_if_success (with_reducible show wpAny _ _ (exec (PySem.Stmt.Assign _ (PySem.Expr.ListComp _ _ _ _) _) _) _ _ _)); (fail_if_success (with_reducible show wpAny _ _ (exec (PySem.Stmt.For _ _ _ _ _) _) _ _ _)); (fail_if_success (with_reducible show wpAny _ _ (eval (PySem.Expr.ListComp _ _ _ _) _) _ _ _)); (fail_if_success (with_reducible show wpAny _ _ (call (Value.builtin "iter") _ _) _ _ _)); (fail_if_success (with_reducible show wpAny _ _ (call (Value.ref _) _ _) _ _ _)); (first | walk1 | (dsimp only; walk1) | (with_reducible apply Hid.use; with_reducible assumption))))
      (try (with_reducible apply Hid.use; with_reducible assumption)); (try dsimp only)
      rename Fr _ _ _ _ => F4
      rename News _ _ _ _ => N4
      refine TurnCi.cont (a := a) r.length _ (by rw [hk]; exact Nat.lt_succ_self _) tl' ti' F4 N4 ⟨r, U, tu, r3, kL, rfl, hU, ?_⟩
      rfl
    | quoted hq =>
      rename_i es0
      obtain ⟨r1, r2, r3⟩ := hR'.cons
      rw [r2] at F3
      have q3 : decide (34 ∈ (Str.ofString "\n\t\r ").cps.toList) = false := by decide +kernel
      have q1 : ((⟨#[34]⟩ : Str) == Str.ofString "\"") = true := by rw [chr_qt]; rfl
      dsimp only [Lx.M, Lx.dO, Lx.eO, List.cons_append, List.nil_append] at N3
      ((try ((with_reducible show wpAny _ _ (execs _ _) _ _ _); (fail_if_success (with_reducible show wpAny _ _ _ Qh _ _)); refine hideQ ?_; intro Qh hQh)); repeat' ((fail_if_success (with_reducible show wpAny _ _ (exec (PySem.Stmt.Assign _ (PySem.Expr.ListComp _ _ _ _) _) _) _ _ _)); (fail_if_success (with_reducible show wpAny _ _ (exec (PySem.Stmt.For _ _ _ _ _) _) _ _ _)); (fail_if_success (with_reducible show wpAny _ _ (eval (PySem.Expr.ListComp _ _ _ _) _) _ _ _)); (fail_if_success (with_reducible show wpAny _ _ (call (Value.builtin "iter") _ _) _ _ _)); (fail_if_success (with_reducible show wpAny _ _ (call (Value.ref _) _ _) _ _ _)); (first | walk1 | (dsimp only; walk1) | (with_reducible apply Hid.use; with_reducible assumption))))
      (try (with_reducible apply Hid.use; with_reducible assumption)); (try dsimp only)
      refine For_ ?_
      ((try ((with_reducible show wpAny _ _ (execs _ _) _ _ _); (fail_if_success (with_reducible show wpAny _ _ _ Qh _ _)); refine hideQ ?_; intro Qh hQh)); repeat' ((fail_if_success (with_reducible show wpAny _ _ (exec (PySem.Stmt.Assign _ (PySem.Expr.ListComp _ _ _ _) _) _) _ _ _)); (fail_if_success (with_reducible show wpAny _ _ (exec (PySem.Stmt.For _ _ _ _ _) _) _ _ _)); (fail_if_success (with_reducible show wpAny _ _ (eval (PySem.Expr.ListComp _ _ _ _) _) _ _ _)); (fail_if_success (with_reducible show wpAny _ _ (call (Value.builtin "iter") _ _) _ _ _)); (fail_if_success (with_reducible show wpAny _ _ (call (Value.ref _) _ _) _ _ _)); (first | walk1 | (dsimp only; walk1) | (with_reducible apply Hid.use; with_reducible assumption))))
      (try (with_reducible apply Hid.use; with_reducible assumption)); (try dsimp only)
      rename Fr _ _ _ _ => F4
      rename News _ _ _ _ => N4
      refine' for_ci (a := a) (i := min (j + 1) a.tx.length) (tl := tl') (ti := ti') (q := q) (z := Str.ofString "") (t := _) (rest' := [(a.pb, W.listOf #[] n)])
        (fun k j m => Ex3 fun es U tu => A6 (Rem a.tx j (enc es ++ 34 :: rest)) (QOk es) (k = (enc es ++ 34 :: rest).length) (U.cps.toList ++ plain es = plain es0) (U.length ≤ j) (gotN m [((PySem.Str.ofString "self"), Value.ref a.x), ((PySem.Str.ofString "token"), Value.str U tu), ((PySem.Str.ofString "fiter"), Value.ref it)] = wantN [((PySem.Str.ofString "self"), Value.ref a.x), ((PySem.Str.ofString "token"), Value.str U tu), ((PySem.Str.ofString "fiter"), Value.ref it)]))
        (enc es0 ++ 34 :: rest).length ok rfl (Nat.le_of_ble_eq_true rfl) (Nat.le_of_ble_eq_true rfl) X T g86 F4 N4 (by decide +kernel) (hr _) hr2 ?hJi2 ?h02 ?turn2 ?done2
      case hJi2 => rintro k j m ⟨_, _, _, hR', _⟩; exact hR'.1
      case h02 =>
        refine' ⟨es0, U, _, r3, hq, rfl, by rw [hU]; rfl, by rw [str_nil hU]; exact Nat.zero_le _, ?hm02⟩
        case hm02 =>
          rfl
      case done2 =>
        rintro k m h' tk' tl' ti' ⟨es, U, tu, hR', _⟩ F3 N3
        have := hR'.2
        rw [List.drop_of_length_le (by rw [Array.length_toList]; exact Nat.le_refl _)] at this
        exact absurd (congrArg List.length this) (by simp)
      case turn2 =>
        clear F4 N4 hR' hU hm r1 r2 r3 q3 q1
        rintro k j m h' tk' tl' ti' tv ⟨es, U, tu, hR', hq, hk, hU, hUl, hm⟩ hj F3 N3
        replace F3 := frNamesE _ F3 hm
        have hlen := ok.len
        have hU5 : U.length ≤ 5000 := by omega
        match es, hq, hR', hk, hU with
        | [], hq, hR', hk, hU =>
          obtain ⟨r1, r2, r3⟩ := hR'.cons
          rw [r2] at F3
          have q1 : ((⟨#[34]⟩ : Str) == Str.ofString "\"") = true := by rw [chr_qt]; rfl
          dsimp only [Lx.M, Lx.dO, Lx.eO, List.cons_append, List.nil_append] at N3
          ((try ((with_reducible show wpAny _ _ (execs _ _) _ _ _); (fail_if_success (with_reducible show wpAny _ _ _ Qh _ _)); refine hideQ ?_; intro Qh hQh)); repeat' ((fail_if_success (with_reducible show wpAny _ _ (exec (PySem.Stmt.Assign _ (PySem.Expr.ListComp _ _ _ _) _) _) _ _ _)); (fail_if_success (with_reducible show wpAny _ _ (exec (PySem.Stmt.For _ _ _ _ _) _) _ _ _)); (fail_if_success (with_reducible show wpAny _ _ (eval (PySem.Expr.ListComp _ _ _ _) _) _ _ _)); (fail_if_success (with_reducible show wpAny _ _ (call (Value.builtin "iter") _ _) _ _ _)); (fail_if_success (with_reducible show wpAny _ _ (call (Value.ref _) _ _) _ _ _)); (first | walk1 | (dsimp only; walk1) | (with_reducible apply Hid.use; with_reducible assumption))))
          repeat (first | dsimp only [TurnCi] | (with_reducible apply Hid.use; with_reducible assumption))
          try k_unfold
          (try (with_reducible apply Hid.use; with_reducible assumption)); (try dsimp only)
          rename Fr _ _ _ _ => F4
          rename News _ _ _ _ => N4
          exact hh _ _ _ tl' ti' _ _ _ F4 (drop_it (Ms := a.M w _ tl' ti') N4) r3 (by simpa [plain] using hU)
        | (true, d) :: es, hq, hR', hk, hU =>
          have hR2 : Rem a.tx j (92 :: d :: (enc es ++ 34 :: rest)) := hR'
          obtain ⟨r1, r2, r3⟩ := hR2.cons
          obtain ⟨r4, r5, r6⟩ := r3.cons
          rw [r2] at F3
          have q1 : ((⟨#[92]⟩ : Str) == Str.ofString "\"") = false := by rw [chr_qt]; rfl
          have q2 : ((⟨#[92]⟩ : Str) == Str.ofString "\\") = true := by rw [chr_bs]; rfl
          dsimp only [Lx.M, Lx.dO, Lx.eO, List.cons_append, List.nil_append] at N3
          ((try ((with_reducible show wpAny _ _ (execs _ _) _ _ _); (fail_if_success (with_reducible show wpAny _ _ _ Qh _ _)); refine hideQ ?_; intro Qh hQh)); repeat' ((fail_if_success (with_reducible show wpAny _ _ (exec (PySem.Stmt.Assign _ (PySem.Expr.ListComp _ _ _ _) _) _) _ _ _)); (fail_if_success (with_reducible show wpAny _ _ (exec (PySem.Stmt.For _ _ _ _ _) _) _ _ _)); (fail_if_success (with_reducible show wpAny _ _ (eval (PySem.Expr.ListComp _ _ _ _) _) _ _ _)); (fail_if_success (with_reducible show wpAny _ _ (call (Value.builtin "iter") _ _) _ _ _)); (fail_if_success (with_reducible show wpAny _ _ (call (Value.ref _) _ _) _ _ _)); (first | walk1 | (dsimp only; walk1) | (with_reducible apply Hid.use; with_reducible assumption))))
          rename Fr _ _ _ _ => F4
          rename News _ _ _ _ => N4
          refine wpAny_call (read_call (rest := ((it, ciObj (.ref q) (Str.ofString "") _) :: (q, methodObj (.ref 86) (.ref a.x)) :: [(a.pb, W.listOf #[] n)])) ok (i := min (j + 1) a.tx.length) (tl := tl') (ti := ti') (by omega) rfl (Nat.le_of_ble_eq_true rfl) (Nat.le_of_ble_eq_true rfl) X T F4 N4 (hr _) ?_)
          intro h5 tk5 tv5 tl5 ti5 F5 N5
          (try (with_reducible apply Hid.use; with_reducible assumption)); (try dsimp only)
          rw [r5]
          clear F4 N4
          dsimp only [Lx.M, Lx.dO, Lx.eO, List.cons_append, List.nil_append] at N5
          ((try ((with_reducible show wpAny _ _ (execs _ _) _ _ _); (fail_if_success (with_reducible show wpAny _ _ _ Qh _ _)); refine hideQ ?_; intro Qh hQh)); repeat' ((fail_if_success (with_reducible show wpAny _ _ (exec (PySem.Stmt.Assign _ (PySem.Expr.ListComp _ _ _ _) _) _) _ _ _)); (fail_if_success (with_reducible show wpAny _ _ (exec (PySem.Stmt.For _ _ _ _ _) _) _ _ _)); (fail_if_success (with_reducible show wpAny _ _ (eval (PySem.Expr.ListComp _ _ _ _) _) _ _ _)); (fail_if_success (with_reducible show wpAny _ _ (call (Value.builtin "iter") _ _) _ _ _)); (fail_if_success (with_reducible show wpAny _ _ (call (Value.ref _) _ _) _ _ _)); (first | walk1 | (dsimp only; walk1) | (with_reducible apply Hid.use; with_reducible assumption))))
          (try (with_reducible apply Hid.use; with_reducible assumption)); (try dsimp only)
          rename Fr _ _ _ _ => F4
          rename News _ _ _ _ => N4
          refine' TurnCi.next (a := a) (enc es ++ 34 :: rest).length _ (by rw [hk, show (enc ((true, d) :: es) ++ 34 :: rest) = 92 :: d :: (enc es ++ 34 :: rest) from rfl]; simp only [List.length_cons]; omega) tl5 ti5 F4 N4 ⟨es, U ++ ⟨#[d]⟩, _, r6, fun e he => hq e (.tail _ he), rfl, ?u1, ?u2, ?u3⟩
          case u1 => rw [cps_app, List.append_assoc]; exact hU
          case u2 => rw [PySem.Str.length_append]; show U.length + 1 ≤ _; omega
          case u3 =>
            rfl
        | (false, d) :: es, hq, hR', hk, hU => 
          have hR2 : Rem a.tx j (d :: (enc es ++ 34 :: rest)) := hR'
          obtain ⟨r1, r2, r3⟩ := hR2.cons
          have hd := hq _ (.head _) rfl
          rw [r2] at F3
          have q1 : ((⟨#[d]⟩ : Str) == Str.ofString "\"") = false := by rw [chr_qt]; exact decide_eq_false hd.1
          have q2 : ((⟨#[d]⟩ : Str) == Str.ofString "\\") = false := by rw [chr_bs]; exact decide_eq_false hd.2
          dsimp only [Lx.M, Lx.dO, Lx.eO, List.cons_append, List.nil_append] at N3
          ((try ((with_reducible show wpAny _ _ (execs _ _) _ _ _); (fail_if_success (with_reducible show wpAny _ _ _ Qh _ _)); refine hideQ ?_; intro Qh hQh)); repeat' ((fail_if_success (with_reducible show wpAny _ _ (exec (PySem.Stmt.Assign _ (PySem.Expr.ListComp _ _ _ _) _) _) _ _ _)); (fail_if_success (with_reducible show wpAny _ _ (exec (PySem.Stmt.For _ _ _ _ _) _) _ _ _)); (fail_if_success (with_reducible show wpAny _ _ (eval (PySem.Expr.ListComp _ _ _ _) _) _ _ _)); (fail_if_success (with_reducible show wpAny _ _ (call (Value.builtin "iter") _ _) _ _ _)); (fail_if_success (with_reducible show wpAny _ _ (call (Value.ref _) _ _) _ _ _)); (first | walk1 | (dsimp only; walk1) | (with_reducible apply Hid.use; with_reducible assumption))))
          (try (with_reducible apply Hid.use; with_reducible assumption)); (try dsimp only)
          rename Fr _ _ _ _ => F4
          rename News _ _ _ _ => N4
          refine' TurnCi.next (a := a) (enc es ++ 34 :: rest).length _ (by rw [hk, show (enc ((false, d) :: es) ++ 34 :: rest) = d :: (enc es ++ 34 :: rest) from rfl]; exact Nat.lt_succ_self _) tl' ti' F4 N4 ⟨es, U ++ ⟨#[d]⟩, _, r3, fun e he => hq e (.tail _ he), rfl, ?u4, ?u5, ?u6⟩
          case u4 => rw [cps_app, List.append_assoc]; exact hU
          case u5 => rw [PySem.Str.length_append]; show U.length + 1 ≤ _; omega
          case u6 =>
            rfl
    | bare hb hw =>
     rename_i e es0 c
     obtain ⟨bb, d⟩ := e
     have hU0 : U.length ≤ 0 := by rw [str_nil hU]; exact Nat.le_refl _
     cases bb with
     | true =>
      have hR2 : Rem a.tx j (92 :: d :: (enc es0 ++ c :: rest)) := hR'
      obtain ⟨r1, r2, r3⟩ := hR2.cons
      obtain ⟨r4, r5, r6⟩ := r3.cons
      rw [r2] at F3
      have q3 : decide (92 ∈ (Str.ofString "\n\t\r ").cps.toList) = false := by decide +kernel
      have q1 : ((⟨#[92]⟩ : Str) == Str.ofString "\"") = false := by rw [chr_qt]; rfl
      have q2 : ((⟨#[92]⟩ : Str) == Str.ofString "\\") = true := by rw [chr_bs]; rfl
      dsimp only [Lx.M, Lx.dO, Lx.eO, List.cons_append, List.nil_append] at N3
      ((try ((with_reducible show wpAny _ _ (execs _ _) _ _ _); (fail_if_success (with_reducible show wpAny _ _ _ Qh _ _)); refine hideQ ?_; intro Qh hQh)); repeat' ((fail_if_success (with_reducible show wpAny _ _ (exec (PySem.Stmt.Assign _ (PySem.Expr.ListComp _ _ _ _) _) _) _ _ _)); (fail_if_success (with_reducible show wpAny _ _ (exec (PySem.Stmt.For _ _ _ _ _) _) _ _ _)); (fail_if_success (with_reducible show wpAny _ _ (eval (PySem.Expr.ListComp _ _ _ _) _) _ _ _)); (fail_if_success (with_reducible show wpAny _ _ (call (Value.builtin "iter") _ _) _ _ _)); (fail_if_success (with_reducible show wpAny _ _ (call (Value.ref _) _ _) _ _ _)); (first | walk1 | (dsimp only; walk1) | (with_reducible apply Hid.use; with_reducible assumption))))
      rename Fr _ _ _ _ => F4
      rename News _ _ _ _ => N4
      refine wpAny_call (read_call (rest := ((it, ciObj (.ref q) (Str.ofString "") _) :: (q, methodObj (.ref 86) (.ref a.x)) :: [(a.pb, W.listOf #[] n)])) ok (i := min (j + 1) a.tx.length) (tl := tl') (ti := ti') (by omega) rfl (Nat.le_of_ble_eq_true rfl) (Nat.le_of_ble_eq_true rfl) X T F4 N4 (hr _) ?_)
      intro h5 tk5 tv5 tl5 ti5 F5 N5
      (try (with_reducible apply Hid.use; with_reducible assumption)); (try dsimp only)
      rw [r5]
      clear F4 N4
      dsimp only [Lx.M, Lx.dO, Lx.eO, List.cons_append, List.nil_append] at N5
      ((try ((with_reducible show wpAny _ _ (execs _ _) _ _ _); (fail_if_success (with_reducible show wpAny _ _ _ Qh _ _)); refine hideQ ?_; intro Qh hQh)); repeat' ((fail_if_success (with_reducible show wpAny _ _ (exec (PySem.Stmt.Assign _ (PySem.Expr.ListComp _ _ _ _) _) _) _ _ _)); (fail_if_success (with_reducible show wpAny _ _ (exec (PySem.Stmt.For _ _ _ _ _) _) _ _ _)); (fail_if_success (with_reducible show wpAny _ _ (eval (PySem.Expr.ListComp _ _ _ _) _) _ _ _)); (fail_if_success (with_reducible show wpAny _ _ (call (Value.builtin "iter") _ _) _ _ _)); (fail_if_success (with_reducible show wpAny _ _ (call (Value.ref _) _ _) _ _ _)); (first | walk1 | (dsimp only; walk1) | (with_reducible apply Hid.use; with_reducible assumption))))
      (try (with_reducible apply Hid.use; with_reducible assumption)); (try dsimp only)
      refine For_ ?_
      ((try ((with_reducible show wpAny _ _ (execs _ _) _ _ _); (fail_if_success (with_reducible show wpAny _ _ _ Qh _ _)); refine hideQ ?_; intro Qh hQh)); repeat' ((fail_if_success (with_reducible show wpAny _ _ (exec (PySem.Stmt.Assign _ (PySem.Expr.ListComp _ _ _ _) _) _) _ _ _)); (fail_if_success (with_reducible show wpAny _ _ (exec (PySem.Stmt.For _ _ _ _ _) _) _ _ _)); (fail_if_success (with_reducible show wpAny _ _ (eval (PySem.Expr.ListComp _ _ _ _) _) _ _ _)); (fail_if_success (with_reducible show wpAny _ _ (call (Value.builtin "iter") _ _) _ _ _)); (fail_if_success (with_reducible show wpAny _ _ (call (Value.ref _) _ _) _ _ _)); (first | walk1 | (dsimp only; walk1) | (with_reducible apply Hid.use; with_reducible assumption))))
      (try (with_reducible apply Hid.use; with_reducible assumption)); (try dsimp only)
      rename Fr _ _ _ _ => F4
      rename News _ _ _ _ => N4
      refine' for_ci (a := a) (i := min (min (j + 1) a.tx.length + 1) a.tx.length) (tl := tl5) (ti := ti5) (q := q) (z := Str.ofString "") (t := _) (rest' := [(a.pb, W.listOf #[] n)])
        (fun k j m => Ex3 fun es U tu => A6 (Rem a.tx j (enc es ++ c :: rest)) ((∀ e ∈ es, e.1 = false → e.2 ≠ 92 ∧ ¬ White e.2)) (k = (enc es ++ c :: rest).length) (U.cps.toList ++ plain es = plain ((true, d) :: es0)) (U.length ≤ j) (gotN m [((PySem.Str.ofString "self"), Value.ref a.x), ((PySem.Str.ofString "token"), Value.str U tu), ((PySem.Str.ofString "fiter"), Value.ref it)] = wantN [((PySem.Str.ofString "self"), Value.ref a.x), ((PySem.Str.ofString "token"), Value.str U tu), ((PySem.Str.ofString "fiter"), Value.ref it)]))
        (enc es0 ++ c :: rest).length ok rfl (Nat.le_of_ble_eq_true rfl) (Nat.le_of_ble_eq_true rfl) X T g86 F4 N4 (by decide +kernel) (hr _) hr2 ?hJA ?h0A ?turnA ?doneA
      case hJA => rintro k j m ⟨_, _, _, hR', _⟩; exact hR'.1
      case h0A =>
        refine' ⟨es0, U ++ ⟨#[d]⟩, _, r6, fun e he => hb.1 e (.tail _ he), rfl, by rw [cps_app, hU]; rfl, by rw [str_nil hU, PySem.Str.length_append]; show 0 + 1 ≤ _; omega, ?hm0A⟩
        case hm0A =>
          rfl
      case doneA =>
        rintro k m h' tk' tl' ti' ⟨es, U, tu, hR', _⟩ F3 N3
        have := hR'.2
        rw [List.drop_of_length_le (by rw [Array.length_toList]; exact Nat.le_refl _)] at this
        exact absurd (congrArg List.length this) (by simp)
      case turnA =>
        clear F4 N4 hR' hU hm r1 r2 r3 q3 q1 q2 hb
        rintro k j m h' tk' tl' ti' tv ⟨es, U, tu, hR', hq, hk, hU, hUl, hm⟩ hj F3 N3
        replace F3 := frNamesE _ F3 hm
        have hlen := ok.len
        have hU5 : U.length ≤ 5000 := by omega
        match es, hq, hR', hk, hU with
        | [], hq, hR', hk, hU =>
          obtain ⟨r1, r2, r3⟩ := hR'.cons
          rw [r2] at F3
          have q3 : decide (c ∈ (Str.ofString "\n\t\r ").cps.toList) = true := decide_eq_true (white_mem.mpr hw)
          dsimp only [Lx.M, Lx.dO, Lx.eO, List.cons_append, List.nil_append] at N3
          ((try ((with_reducible show wpAny _ _ (execs _ _) _ _ _); (fail_if_success (with_reducible show wpAny _ _ _ Qh _ _)); refine hideQ ?_; intro Qh hQh)); repeat' ((fail_if_success (with_reducible show wpAny _ _ (exec (PySem.Stmt.Assign _ (PySem.Expr.ListComp _ _ _ _) _) _) _ _ _)); (fail_if_success (with_reducible show wpAny _ _ (exec (PySem.Stmt.For _ _ _ _ _) _) _ _ _)); (fail_if_success (with_reducible show wpAny _ _ (eval (PySem.Expr.ListComp _ _ _ _) _) _ _ _)); (fail_if_success (with_reducible show wpAny _ _ (call (Value.builtin "iter") _ _) _ _ _)); (fail_if_success (with_reducible show wpAny _ _ (call (Value.ref _) _ _) _ _ _)); (first | walk1 | (dsimp only; walk1) | (with_reducible apply Hid.use; with_reducible assumption))))
          repeat (first | dsimp only [TurnCi] | (with_reducible apply Hid.use; with_reducible assumption))
          try k_unfold
          (try (with_reducible apply Hid.use; with_reducible assumption)); (try dsimp only)
          rename Fr _ _ _ _ => F4
          rename News _ _ _ _ => N4
          exact hh _ _ _ tl' ti' _ _ _ F4 (drop_it (Ms := a.M w _ tl' ti') N4) r3 (by simpa [plain] using hU)
        | (true, d) :: es, hq, hR', hk, hU =>
          have hR2 : Rem a.tx j (92 :: d :: (enc es ++ c :: rest)) := hR'
          obtain ⟨r1, r2, r3⟩ := hR2.cons
          obtain ⟨r4, r5, r6⟩ := r3.cons
          rw [r2] at F3
          have q3 : decide (92 ∈ (Str.ofString "\n\t\r ").cps.toList) = false := by decide +kernel
          have q2 : ((⟨#[92]⟩ : Str) == Str.ofString "\\") = true := by rw [chr_bs]; rfl
          dsimp only [Lx.M, Lx.dO, Lx.eO, List.cons_append, List.nil_append] at N3
          ((try ((with_reducible show wpAny _ _ (execs _ _) _ _ _); (fail_if_success (with_reducible show wpAny _ _ _ Qh _ _)); refine hideQ ?_; intro Qh hQh)); repeat' ((fail_if_success (with_reducible show wpAny _ _ (exec (PySem.Stmt.Assign _ (PySem.Expr.ListComp _ _ _ _) _) _) _ _ _)); (fail_if_success (with_reducible show wpAny _ _ (exec (PySem.Stmt.For _ _ _ _ _) _) _ _ _)); (fail_if_success (with_reducible show wpAny _ _ (eval (PySem.Expr.ListComp _ _ _ _) _) _ _ _)); (fail_if_success (with_reducible show wpAny _ _ (call (Value.builtin "iter") _ _) _ _ _)); (fail_if_success (with_reducible show wpAny _ _ (call (Value.ref _) _ _) _ _ _)); (first | walk1 | (dsimp only; walk1) | (with_reducible apply Hid.use; with_reducible assumption))))
          rename Fr _ _ _ _ => F4
          rename News _ _ _ _ => N4
          refine wpAny_call (read_call (rest := ((it, ciObj (.ref q) (Str.ofString "") _) :: (q, methodObj (.ref 86) (.ref a.x)) :: [(a.pb, W.listOf #[] n)])) ok (i := min (j + 1) a.tx.length) (tl := tl') (ti := ti') (by omega) rfl (Nat.le_of_ble_eq_true rfl) (Nat.le_of_ble_eq_true rfl) X T F4 N4 (hr _) ?_)
          intro h5 tk5 tv5 tl5 ti5 F5 N5
          (try (with_reducible apply Hid.use; with_reducible assumption)); (try dsimp only)
          rw [r5]
          clear F4 N4
          dsimp only [Lx.M, Lx.dO, Lx.eO, List.cons_append, List.nil_append] at N5
          ((try ((with_reducible show wpAny _ _ (execs _ _) _ _ _); (fail_if_success (with_reducible show wpAny _ _ _ Qh _ _)); refine hideQ ?_; intro Qh hQh)); repeat' ((fail_if_success (with_reducible show wpAny _ _ (exec (PySem.Stmt.Assign _ (PySem.Expr.ListComp _ _ _ _) _) _) _ _ _)); (fail_if_success (with_reducible show wpAny _ _ (exec (PySem.Stmt.For _ _ _ _ _) _) _ _ _)); (fail_if_success (with_reducible show wpAny _ _ (eval (PySem.Expr.ListComp _ _ _ _) _) _ _ _)); (fail_if_success (with_reducible show wpAny _ _ (call (Value.builtin "iter") _ _) _ _ _)); (fail_if_success (with_reducible show wpAny _ _ (call (Value.ref _) _ _) _ _ _)); (first | walk1 | (dsimp only; walk1) | (with_reducible apply Hid.use; with_reducible assumption))))
          (try (with_reducible apply Hid.use; with_reducible assumption)); (try dsimp only)
          rename Fr _ _ _ _ => F4
          rename News _ _ _ _ => N4
          refine' TurnCi.next (a := a) (enc es ++ c :: rest).length _ (by rw [hk, show (enc ((true, d) :: es) ++ c :: rest) = 92 :: d :: (enc es ++ c :: rest) from rfl]; simp only [List.length_cons]; omega) tl5 ti5 F4 N4 ⟨es, U ++ ⟨#[d]⟩, _, r6, fun e he => hq e (.tail _ he), rfl, ?u1A, ?u2A, ?u3A⟩
          case u1A => rw [cps_app, List.append_assoc]; exact hU
          case u2A => rw [PySem.Str.length_append]; show U.length + 1 ≤ _; omega
          case u3A =>
            rfl
        | (false, d) :: es, hq, hR', hk, hU => 
          have hR2 : Rem a.tx j (d :: (enc es ++ c :: rest)) := hR'
          obtain ⟨r1, r2, r3⟩ := hR2.cons
          have hd := hq _ (.head _) rfl
          rw [r2] at F3
          have q3 : decide (d ∈ (Str.ofString "\n\t\r ").cps.toList) = false := decide_eq_false fun z => hd.2 (white_mem.mp z)
          have q2 : ((⟨#[d]⟩ : Str) == Str.ofString "\\") = false := by rw [chr_bs]; exact decide_eq_false hd.1
          dsimp only [Lx.M, Lx.dO, Lx.eO, List.cons_append, List.nil_append] at N3
          ((try ((with_reducible show wpAny _ _ (execs _ _) _ _ _); (fail_if_success (with_reducible show wpAny _ _ _ Qh _ _)); refine hideQ ?_; intro Qh hQh)); repeat' ((fail_if_success (with_reducible show wpAny _ _ (exec (PySem.Stmt.Assign _ (PySem.Expr.ListComp _ _ _ _) _) _) _ _ _)); (fail_if_success (with_reducible show wpAny _ _ (exec (PySem.Stmt.For _ _ _ _ _) _) _ _ _)); (fail_if_success (with_reducible show wpAny _ _ (eval (PySem.Expr.ListComp _ _ _ _) _) _ _ _)); (fail_if_success (with_reducible show wpAny _ _ (call (Value.builtin "iter") _ _) _ _ _)); (fail_if_success (with_reducible show wpAny _ _ (call (Value.ref _) _ _) _ _ _)); (first | walk1 | (dsimp only; walk1) | (with_reducible apply Hid.use; with_reducible assumption))))
          (try (with_reducible apply Hid.use; with_reducible assumption)); (try dsimp only)
          rename Fr _ _ _ _ => F4
          rename News _ _ _ _ => N4
          refine' TurnCi.next (a := a) (enc es ++ c :: rest).length _ (by rw [hk, show (enc ((false, d) :: es) ++ c :: rest) = d :: (enc es ++ c :: rest) from rfl]; exact Nat.lt_succ_self _) tl' ti' F4 N4 ⟨es, U ++ ⟨#[d]⟩, _, r3, fun e he => hq e (.tail _ he), rfl, ?u4A, ?u5A, ?u6A⟩
          case u4A => rw [cps_app, List.append_assoc]; exact hU
          case u5A => rw [PySem.Str.length_append]; show U.length + 1 ≤ _; omega
          case u6A =>
            rfl
     | false =>
      have hR2 : Rem a.tx j (d :: (enc es0 ++ c :: rest)) := hR'
      obtain ⟨r1, r2, r3⟩ := hR2.cons
      have hd := hb.1 _ (.head _) rfl
      have hd2 := hb.2 _ _ rfl rfl
      rw [r2] at F3
      have q3 : decide (d ∈ (Str.ofString "\n\t\r ").cps.toList) = false := decide_eq_false fun z => hd.2 (white_mem.mp z)
      have q1 : ((⟨#[d]⟩ : Str) == Str.ofString "\"") = false := by rw [chr_qt]; exact decide_eq_false hd2
      have q2 : ((⟨#[d]⟩ : Str) == Str.ofString "\\") = false := by rw [chr_bs]; exact decide_eq_false hd.1
      dsimp only [Lx.M, Lx.dO, Lx.eO, List.cons_append, List.nil_append] at N3
      ((try ((with_reducible show wpAny _ _ (execs _ _) _ _ _); (fail_if_success (with_reducible show wpAny _ _ _ Qh _ _)); refine hideQ ?_; intro Qh hQh)); repeat' ((fail_if_success (with_reducible show wpAny _ _ (exec (PySem.Stmt.Assign _ (PySem.Expr.ListComp _ _ _ _) _) _) _ _ _)); (fail_if_success (with_reducible show wpAny _ _ (exec (PySem.Stmt.For _ _ _ _ _) _) _ _ _)); (fail_if_success (with_reducible show wpAny _ _ (eval (PySem.Expr.ListComp _ _ _ _) _) _ _ _)); (fail_if_success (with_reducible show wpAny _ _ (call (Value.builtin "iter") _ _) _ _ _)); (fail_if_success (with_reducible show wpAny _ _ (call (Value.ref _) _ _) _ _ _)); (first | walk1 | (dsimp only; walk1) | (with_reducible apply Hid.use; with_reducible assumption))))
      (try (with_reducible apply Hid.use; with_reducible assumption)); (try dsimp only)
      refine For_ ?_
      ((try ((with_reducible show wpAny _ _ (execs _ _) _ _ _); (fail_if_success (with_reducible show wpAny _ _ _ Qh _ _)); refine hideQ ?_; intro Qh hQh)); repeat' ((fail_if_success (with_reducible show wpAny _ _ (exec (PySem.Stmt.Assign _ (PySem.Expr.ListComp _ _ _ _) _) _) _ _ _)); (fail_if_success (with_reducible show wpAny _ _ (exec (PySem.Stmt.For _ _ _ _ _) _) _ _ _)); (fail_if_success (with_reducible show wpAny _ _ (eval (PySem.Expr.ListComp _ _ _ _) _) _ _ _)); (fail_if_success (with_reducible show wpAny _ _ (call (Value.builtin "iter") _ _) _ _ _)); (fail_if_success (with_reducible show wpAny _ _ (call (Value.ref _) _ _) _ _ _)); (first | walk1 | (dsimp only; walk1) | (with_reducible apply Hid.use; with_reducible assumption))))
      (try (with_reducible apply Hid.use; with_reducible assumption)); (try dsimp only)
      rename Fr _ _ _ _ => F4
      rename News _ _ _ _ => N4
      refine' for_ci (a := a) (i := min (j + 1) a.tx.length) (tl := tl') (ti := ti') (q := q) (z := Str.ofString "") (t := _) (rest' := [(a.pb, W.listOf #[] n)])
        (fun k j m => Ex3 fun es U tu => A6 (Rem a.tx j (enc es ++ c :: rest)) ((∀ e ∈ es, e.1 = false → e.2 ≠ 92 ∧ ¬ White e.2)) (k = (enc es ++ c :: rest).length) (U.cps.toList ++ plain es = plain ((false, d) :: es0)) (U.length ≤ j) (gotN m [((PySem.Str.ofString "self"), Value.ref a.x), ((PySem.Str.ofString "token"), Value.str U tu), ((PySem.Str.ofString "fiter"), Value.ref it)] = wantN [((PySem.Str.ofString "self"), Value.ref a.x), ((PySem.Str.ofString "token"), Value.str U tu), ((PySem.Str.ofString "fiter"), Value.ref it)]))
        (enc es0 ++ c :: rest).length ok rfl (Nat.le_of_ble_eq_true rfl) (Nat.le_of_ble_eq_true rfl) X T g86 F4 N4 (by decide +kernel) (hr _) hr2 ?hJB ?h0B ?turnB ?doneB
      case hJB => rintro k j m ⟨_, _, _, hR', _⟩; exact hR'.1
      case h0B =>
        refine' ⟨es0, U ++ ⟨#[d]⟩, _, r3, fun e he => hb.1 e (.tail _ he), rfl, by rw [cps_app, hU]; rfl, by rw [str_nil hU, PySem.Str.length_append]; show 0 + 1 ≤ _; omega, ?hm0B⟩
        case hm0B =>
          rfl
      case doneB =>
        rintro k m h' tk' tl' ti' ⟨es, U, tu, hR', _⟩ F3 N3
        have := hR'.2
        rw [List.drop_of_length_le (by rw [Array.length_toList]; exact Nat.le_refl _)] at this
        exact absurd (congrArg List.length this) (by simp)
      case turnB =>
        clear F4 N4 hR' hU hm r1 r2 r3 q3 q1 q2 hb
        rintro k j m h' tk' tl' ti' tv ⟨es, U, tu, hR', hq, hk, hU, hUl, hm⟩ hj F3 N3
        replace F3 := frNamesE _ F3 hm
        have hlen := ok.len
        have hU5 : U.length ≤ 5000 := by omega
        match es, hq, hR', hk, hU with
        | [], hq, hR', hk, hU =>
          obtain ⟨r1, r2, r3⟩ := hR'.cons
          rw [r2] at F3
          have q3 : decide (c ∈ (Str.ofString "\n\t\r ").cps.toList) = true := decide_eq_true (white_mem.mpr hw)
          dsimp only [Lx.M, Lx.dO, Lx.eO, List.cons_append, List.nil_append] at N3
          ((try ((with_reducible show wpAny _ _ (execs _ _) _ _ _); (fail_if_success (with_reducible show wpAny _ _ _ Qh _ _)); refine hideQ ?_; intro Qh hQh)); repeat' ((fail_if_success (with_reducible show wpAny _ _ (exec (PySem.Stmt.Assign _ (PySem.Expr.ListComp _ _ _ _) _) _) _ _ _)); (fail_if_success (with_reducible show wpAny _ _ (exec (PySem.Stmt.For _ _ _ _ _) _) _ _ _)); (fail_if_success (with_reducible show wpAny _ _ (eval (PySem.Expr.ListComp _ _ _ _) _) _ _ _)); (fail_if_success (with_reducible show wpAny _ _ (call (Value.builtin "iter") _ _) _ _ _)); (fail_if_success (with_reducible show wpAny _ _ (call (Value.ref _) _ _) _ _ _)); (first | walk1 | (dsimp only; walk1) | (with_reducible apply Hid.use; with_reducible assumption))))
          repeat (first | dsimp only [TurnCi] | (with_reducible apply Hid.use; with_reducible assumption))
          try k_unfold
          (try (with_reducible apply Hid.use; with_reducible assumption)); (try dsimp only)
          rename Fr _ _ _ _ => F4
          rename News _ _ _ _ => N4
          exact hh _ _ _ tl' ti' _ _ _ F4 (drop_it (Ms := a.M w _ tl' ti') N4) r3 (by simpa [plain] using hU)
        | (true, d) :: es, hq, hR', hk, hU =>
          have hR2 : Rem a.tx j (92 :: d :: (enc es ++ c :: rest)) := hR'
          obtain ⟨r1, r2, r3⟩ := hR2.cons
          obtain ⟨r4, r5, r6⟩ := r3.cons
          rw [r2] at F3
          have q3 : decide (92 ∈ (Str.ofString "\n\t\r ").cps.toList) = false := by decide +kernel
          have q2 : ((⟨#[92]⟩ : Str) == Str.ofString "\\") = true := by rw [chr_bs]; rfl
          dsimp only [Lx.M, Lx.dO, Lx.eO, List.cons_append, List.nil_append] at N3
          ((try ((with_reducible show wpAny _ _ (execs _ _) _ _ _); (fail_if_success (with_reducible show wpAny _ _ _ Qh _ _)); refine hideQ ?_; intro Qh hQh)); repeat' ((fail_if_success (with_reducible show wpAny _ _ (exec (PySem.Stmt.Assign _ (PySem.Expr.ListComp _ _ _ _) _) _) _ _ _)); (fail_if_success (with_reducible show wpAny _ _ (exec (PySem.Stmt.For _ _ _ _ _) _) _ _ _)); (fail_if_success (with_reducible show wpAny _ _ (eval (PySem.Expr.ListComp _ _ _ _) _) _ _ _)); (fail_if_success (with_reducible show wpAny _ _ (call (Value.builtin "iter") _ _) _ _ _)); (fail_if_success (with_reducible show wpAny _ _ (call (Value.ref _) _ _) _ _ _)); (first | walk1 | (dsimp only; walk1) | (with_reducible apply Hid.use; with_reducible assumption))))
          rename Fr _ _ _ _ => F4
          rename News _ _ _ _ => N4
          refine wpAny_call (read_call (rest := ((it, ciObj (.ref q) (Str.ofString "") _) :: (q, methodObj (.ref 86) (.ref a.x)) :: [(a.pb, W.listOf #[] n)])) ok (i := min (j + 1) a.tx.length) (tl := tl') (ti := ti') (by omega) rfl (Nat.le_of_ble_eq_true rfl) (Nat.le_of_ble_eq_true rfl) X T F4 N4 (hr _) ?_)
          intro h5 tk5 tv5 tl5 ti5 F5 N5
          (try (with_reducible apply Hid.use; with_reducible assumption)); (try dsimp only)
          rw [r5]
          clear F4 N4
          dsimp only [Lx.M, Lx.dO, Lx.eO, List.cons_append, List.nil_append] at N5
          ((try ((with_reducible show wpAny _ _ (execs _ _) _ _ _); (fail_if_success (with_reducible show wpAny _ _ _ Qh _ _)); refine hideQ ?_; intro Qh hQh)); repeat' ((fail_if_success (with_reducible show wpAny _ _ (exec (PySem.Stmt.Assign _ (PySem.Expr.ListComp _ _ _ _) _) _) _ _ _)); (fail_if_success (with_reducible show wpAny _ _ (exec (PySem.Stmt.For _ _ _ _ _) _) _ _ _)); (fail_if_success (with_reducible show wpAny _ _ (eval (PySem.Expr.ListComp _ _ _ _) _) _ _ _)); (fail_if_success (with_reducible show wpAny _ _ (call (Value.builtin "iter") _ _) _ _ _)); (fail_if_success (with_reducible show wpAny _ _ (call (Value.ref _) _ _) _ _ _)); (first | walk1 | (dsimp only; walk1) | (with_reducible apply Hid.use; with_reducible assumption))))
          (try (with_reducible apply Hid.use; with_reducible assumption)); (try dsimp only)
          rename Fr _ _ _ _ => F4
          rename News _ _ _ _ => N4
          refine' TurnCi.next (a := a) (enc es ++ c :: rest).length _ (by rw [hk, show (enc ((true, d) :: es) ++ c :: rest) = 92 :: d :: (enc es ++ c :: rest) from rfl]; simp only [List.length_cons]; omega) tl5 ti5 F4 N4 ⟨es, U ++ ⟨#[d]⟩, _, r6, fun e he => hq e (.tail _ he), rfl, ?u1B, ?u2B, ?u3B⟩
          case u1B => rw [cps_app, List.append_assoc]; exact hU
          case u2B => rw [PySem.Str.length_append]; show U.length + 1 ≤ _; omega
          case u3B =>
            rfl
        | (false, d) :: es, hq, hR', hk, hU => 
          have hR2 : Rem a.tx j (d :: (enc es ++ c :: rest)) := hR'
          obtain ⟨r1, r2, r3⟩ := hR2.cons
          have hd := hq _ (.head _) rfl
          rw [r2] at F3
          have q3 : decide (d ∈ (Str.ofString "\n\t\r ").cps.toList) = false := decide_eq_false fun z => hd.2 (white_mem.mp z)
          have q2 : ((⟨#[d]⟩ : Str) == Str.ofString "\\") = false := by rw [chr_bs]; exact decide_eq_false hd.1
          dsimp only [Lx.M, Lx.dO, Lx.eO, List.cons_append, List.nil_append] at N3
          ((try ((with_reducible show wpAny _ _ (execs _ _) _ _ _); (fail_if_success (with_reducible show wpAny _ _ _ Qh _ _)); refine hideQ ?_; intro Qh hQh)); repeat' ((fail_if_success (with_reducible show wpAny _ _ (exec (PySem.Stmt.Assign _ (PySem.Expr.ListComp _ _ _ _) _) _) _ _ _)); (fail_if_success (with_reducible show wpAny _ _ (exec (PySem.Stmt.For _ _ _ _ _) _) _ _ _)); (fail_if_success (with_reducible show wpAny _ _ (eval (PySem.Expr.ListComp _ _ _ _) _) _ _ _)); (fail_if_success (with_reducible show wpAny _ _ (call (Value.builtin "iter") _ _) _ _ _)); (fail_if_success (with_reducible show wpAny _ _ (call (Value.ref _) _ _) _ _ _)); (first | walk1 | (dsimp only; walk1) | (with_reducible apply Hid.use; with_reducible assumption))))
          (try (with_reducible apply Hid.use; with_reducible assumption)); (try dsimp only)
          rename Fr _ _ _ _ => F4
          rename News _ _ _ _ => N4
          refine' TurnCi.next (a := a) (enc es ++ c :: rest).length _ (by rw [hk, show (enc ((false, d) :: es) ++ c :: rest) = d :: (enc es ++ c :: rest) from rfl]; exact Nat.lt_succ_self _) tl' ti' F4 N4 ⟨es, U ++ ⟨#[d]⟩, _, r3, fun e he => hq e (.tail _ he), rfl, ?u4B, ?u5B, ?u6B⟩
          case u4B => rw [cps_app, List.append_assoc]; exact hU
          case u5B => rw [PySem.Str.length_append]; show U.length + 1 ≤ _; omega
          case u6B =>
            rfl
    | done => exact absurd hR'.nil.1 (Nat.ne_of_lt hj)

end
/-! C_pop -/
section
theorem seq0 {v : Value} {vs : List Value} : seqIndex? 0 (v :: vs).toArray.size = some 0 := by
  unfold seqIndex?
  simp
theorem c_pop {prog : Program} {w : World} {A : Around} {s : Shared} {R : Result → Shared → Prop} {p : Program} {loose : List Str} {mg mb : Str → Option Value}
    (h1 : A.handled = none) (h2 : A.depth ≤ 600) (h3 : A.units ≤ 300) {a : Lx} {i n : Nat} {tl ti : Tok} {v : Value} {vs : List Value} (ok : a.Ok w) (okp : a.pb ∉ (a.M w 0 0 0).map (·.1)) (hlen : vs.length ≤ 100)
    (hM : ∀ p ∈ a.M w i tl ti ++ [(a.pb, W.listOf (v :: vs).toArray n)], s.heap.get? p.1 = some p.2)
    (X : (hd.heap_1 w.params).In (hidden s.heap (a.M w i tl ti ++ [(a.pb, W.listOf (v :: vs).toArray n)]))) (T : TopRead p loose mg mb (hidden s.heap (a.M w i tl ti ++ [(a.pb, W.listOf (v :: vs).toArray n)])))
    (h : ∀ h' tk n', (hidden s.heap (a.M w i tl ti ++ [(a.pb, W.listOf (v :: vs).toArray n)])).StaysIn h' → (∀ p ∈ a.M w i tl ti ++ [(a.pb, W.listOf vs.toArray n')], h'.get? p.1 = some p.2) →
      R (.ok (.ret v)) { s with heap := h', toks := tk }) :
    codeAny (model prog w) A (.call (.ref 93) ⟨[.ref a.x], []⟩) R s := by
  refine code_weak (d := 600) (u := 300) (by assumption) (by assumption) (by assumption) ?_
  refine' enter (by assumption) (TopRead.nolimit (by assumption)) (fun _ _ e => of_hideAll _ e) (Nat.le_of_eq (hideAll_size _ _)) (enterM_news hM) ?ho ?hcd ?hroom ?hb ?hloc ?_ ?e1 ?e2 ?e3 ?e4
  (case ho => k_is); (case hcd => k_is); (case hroom => decide); (case hb => exact BindsTo.of_eq rfl); (case hloc => exact locs rfl)
  (case e1 => exact rfl); (case e2 => exact rfl); (case e3 => exact rfl); (case e4 => decide)
  intro L' h₁ F' N' hL'; (try dsimp only); (show wpAny _ _ _ _ _ _); k_fold
  unfold hidden at X T h
  generalize hg : hideAll s.heap (List.map (fun x => x.fst) (a.M w i tl ti ++ [(a.pb, W.listOf (v :: vs).toArray n)])) = g at *
  have hh : ∀ h' tk n' m', Fr g L' h' m' → News g L' h' (a.M w i tl ti ++ [(a.pb, W.listOf vs.toArray n')]) → R (.ok (.ret v)) { s with heap := h', toks := tk } :=
    fun h' tk n' m' F N => h h' tk n' F.keep fun p hp => (N p hp).1
  clear h
  replace F' : Fr g L' h₁ (fun y => List.lookup y [(Str.ofString "self", Value.ref a.x)]) := F'
  dsimp only [Lx.M, Lx.dO, Lx.eO, List.cons_append, List.nil_append] at N'
  obtain ⟨o1, o2, o3, o4, o5, o6, o7, o8, o9⟩ : @Ne Nat a.dx a.pb ∧ @Ne Nat a.sp a.pb ∧ @Ne Nat a.x a.pb ∧ @Ne Nat a.y a.pb ∧ @Ne Nat a.dy a.pb ∧ @Ne Nat a.f a.pb ∧ @Ne Nat a.c a.pb ∧ @Ne Nat a.cs a.pb ∧ @Ne Nat a.ct a.pb := by
    simp only [Lx.M, List.map_cons, List.map_nil, List.mem_cons, List.not_mem_nil, or_false, not_or] at okp
    obtain ⟨c1, c2, c3, c4, c5, c6, c7, c8, c9⟩ := okp
    exact ⟨Ne.symm c1, Ne.symm c2, Ne.symm c3, Ne.symm c4, Ne.symm c5, Ne.symm c6, Ne.symm c7, Ne.symm c8, Ne.symm c9⟩
  repeat' ((fail_if_success (with_reducible show wpAny _ _ (exec (PySem.Stmt.Assign _ (PySem.Expr.ListComp _ _ _ _) _) _) _ _ _)); (fail_if_success (with_reducible show wpAny _ _ (exec (PySem.Stmt.For _ _ _ _ _) _) _ _ _)); (fail_if_success (with_reducible show wpAny _ _ (eval (PySem.Expr.ListComp _ _ _ _) _) _ _ _)); (fail_if_success (with_reducible show wpAny _ _ (truthy (Value.ref _)) _ _ _)); (fail_if_success (with_reducible show wpAny _ _ (call (Value.ref _) _ _) _ _ _)); (first | walk1 | (dsimp only; walk1)))
  refine wpAny_truthy_list (items := (v :: vs).toArray) (News.isList (by k_asm) (by k_mem : (a.pb, W.listOf (v :: vs).toArray n) ∈ _)) (by rw [List.size_toArray, List.length_cons]; omega) ?_
  show wpAny _ _ (execs _ _) _ _ _
  repeat' ((fail_if_success (with_reducible show wpAny _ _ (exec (PySem.Stmt.Assign _ (PySem.Expr.ListComp _ _ _ _) _) _) _ _ _)); (fail_if_success (with_reducible show wpAny _ _ (exec (PySem.Stmt.For _ _ _ _ _) _) _ _ _)); (fail_if_success (with_reducible show wpAny _ _ (eval (PySem.Expr.ListComp _ _ _ _) _) _ _ _)); (fail_if_success (with_reducible show wpAny _ _ (call (Value.builtin _) _ _) _ _ _)); (fail_if_success (with_reducible show wpAny _ _ (call (Value.ref _) _ _) _ _ _)); (first | walk1 | (dsimp only; walk1)))
  refine kl_popAt (k := 0) (p := []) (y := v) (q := vs) (its := (v :: vs).toArray) (n := n) (by k_asm) (by k_asm) rfl seq0 rfl (by k_upd) (by rw [sizeLine_eq]; show vs.length + 1 ≤ _; omega) ?_
  intro h5 F5 N5
  ((try ((with_reducible show wpAny _ _ (execs _ _) _ _ _); (fail_if_success (with_reducible show wpAny _ _ _ Qh _ _)); refine hideQ ?_; intro Qh hQh)); repeat' ((fail_if_success (with_reducible show wpAny _ _ (exec (PySem.Stmt.Assign _ (PySem.Expr.ListComp _ _ _ _) _) _) _ _ _)); (fail_if_success (with_reducible show wpAny _ _ (exec (PySem.Stmt.For _ _ _ _ _) _) _ _ _)); (fail_if_success (with_reducible show wpAny _ _ (eval (PySem.Expr.ListComp _ _ _ _) _) _ _ _)); (fail_if_success (with_reducible show wpAny _ _ (call (Value.builtin "iter") _ _) _ _ _)); (fail_if_success (with_reducible show wpAny _ _ (call (Value.ref _) _ _) _ _ _)); (first | walk1 | (dsimp only; walk1) | (with_reducible apply Hid.use; with_reducible assumption))))
  (try (with_reducible apply Hid.use; with_reducible assumption)); (try dsimp only)
  try k_unfold
  (try (with_reducible apply Hid.use; with_reducible assumption)); (try dsimp only)
  exact hh _ _ _ _ F5 N5
theorem c_push {prog : Program} {w : World} {A : Around} {s : Shared} {R : Result → Shared → Prop} {p : Program} {loose : List Str} {mg mb : Str → Option Value}
    (h1 : A.handled = none) (h2 : A.depth ≤ 600) (h3 : A.units ≤ 300) {a : Lx} {i n : Nat} {tl ti : Tok} {v : Value} {vs : List Value} (ok : a.Ok w) (okp : a.pb ∉ (a.M w 0 0 0).map (·.1)) (hlen : vs.length ≤ 100)
    (hM : ∀ p ∈ a.M w i tl ti ++ [(a.pb, W.listOf vs.toArray n)], s.heap.get? p.1 = some p.2)
    (X : (hd.heap_1 w.params).In (hidden s.heap (a.M w i tl ti ++ [(a.pb, W.listOf vs.toArray n)]))) (T : TopRead p loose mg mb (hidden s.heap (a.M w i tl ti ++ [(a.pb, W.listOf vs.toArray n)])))
    (h : ∀ h' tk n', (hidden s.heap (a.M w i tl ti ++ [(a.pb, W.listOf vs.toArray n)])).StaysIn h' → (∀ p ∈ a.M w i tl ti ++ [(a.pb, W.listOf (vs ++ [v]).toArray n')], h'.get? p.1 = some p.2) →
      R (.ok (.ret .none)) { s with heap := h', toks := tk }) :
    codeAny (model prog w) A (.call (.ref 100) ⟨[.ref a.x, v], []⟩) R s := by
  refine code_weak (d := 600) (u := 300) (by assumption) (by assumption) (by assumption) ?_
  refine' enter (by assumption) (TopRead.nolimit (by assumption)) (fun _ _ e => of_hideAll _ e) (Nat.le_of_eq (hideAll_size _ _)) (enterM_news hM) ?ho ?hcd ?hroom ?hb ?hloc ?_ ?e1 ?e2 ?e3 ?e4
  (case ho => k_is); (case hcd => k_is); (case hroom => decide); (case hb => exact BindsTo.of_eq rfl); (case hloc => exact locs rfl)
  (case e1 => exact rfl); (case e2 => exact rfl); (case e3 => exact rfl); (case e4 => decide)
  intro L' h₁ F' N' hL'; (try dsimp only); (show wpAny _ _ _ _ _ _); k_fold
  unfold hidden at X T h
  generalize hg : hideAll s.heap (List.map (fun x => x.fst) (a.M w i tl ti ++ [(a.pb, W.listOf vs.toArray n)])) = g at *
  have hh : ∀ h' tk n' m', Fr g L' h' m' → News g L' h' (a.M w i tl ti ++ [(a.pb, W.listOf (vs ++ [v]).toArray n')]) → R (.ok (.ret .none)) { s with heap := h', toks := tk } :=
    fun h' tk n' m' F N => h h' tk n' F.keep fun p hp => (N p hp).1
  clear h
  replace F' : Fr g L' h₁ (fun y => List.lookup y [(Str.ofString "token", v), (Str.ofString "self", Value.ref a.x)]) := F'
  dsimp only [Lx.M, Lx.dO, Lx.eO, List.cons_append, List.nil_append] at N'
  obtain ⟨o1, o2, o3, o4, o5, o6, o7, o8, o9⟩ : @Ne Nat a.dx a.pb ∧ @Ne Nat a.sp a.pb ∧ @Ne Nat a.x a.pb ∧ @Ne Nat a.y a.pb ∧ @Ne Nat a.dy a.pb ∧ @Ne Nat a.f a.pb ∧ @Ne Nat a.c a.pb ∧ @Ne Nat a.cs a.pb ∧ @Ne Nat a.ct a.pb := by
    simp only [Lx.M, List.map_cons, List.map_nil, List.mem_cons, List.not_mem_nil, or_false, not_or] at okp
    obtain ⟨c1, c2, c3, c4, c5, c6, c7, c8, c9⟩ := okp
    exact ⟨Ne.symm c1, Ne.symm c2, Ne.symm c3, Ne.symm c4, Ne.symm c5, Ne.symm c6, Ne.symm c7, Ne.symm c8, Ne.symm c9⟩
  ((try ((with_reducible show wpAny _ _ (execs _ _) _ _ _); (fail_if_success (with_reducible show wpAny _ _ _ Qh _ _)); refine hideQ ?_; intro Qh hQh)); repeat' ((fail_if_success (with_reducible show wpAny _ _ (exec (PySem.Stmt.Assign _ (PySem.Expr.ListComp _ _ _ _) _) _) _ _ _)); (fail_if_success (with_reducible show wpAny _ _ (exec (PySem.Stmt.For _ _ _ _ _) _) _ _ _)); (fail_if_success (with_reducible show wpAny _ _ (eval (PySem.Expr.ListComp _ _ _ _) _) _ _ _)); (fail_if_success (with_reducible show wpAny _ _ (call (Value.builtin "iter") _ _) _ _ _)); (fail_if_success (with_reducible show wpAny _ _ (call (Value.ref _) _ _) _ _ _)); (first | walk1 | (dsimp only; walk1) | (with_reducible apply Hid.use; with_reducible assumption))))
  (try (with_reducible apply Hid.use; with_reducible assumption)); (try dsimp only)
  try k_unfold
  (try (with_reducible apply Hid.use; with_reducible assumption)); (try dsimp only)
  rename Fr _ _ _ _ => F5
  rename News _ _ _ _ => N5
  exact hh _ _ _ _ F5 N5

end
/-! C_stream -/
section
structure Lx.SOk (a : Lx) (w : World) : Prop where
  pick : pickDef (bodyAt (hd.heap_1 w.params) 135) = some (a.nm, a.ps, a.bd, a.sc)
  fo : a.fo.data = .func (fnX a.nm a.qual a.ps a.bd a.sc [(Str.ofString "text", a.ct), (Str.ofString "spot", a.cs)] .none .none a.doc a.pm none (.ref a.c) a.ctv)
  oc : ∃ vs t, a.oc.data = .fields vs ∧ vs[1]? = some (.str a.qual t)
  oT : a.oT.data = .cell (some (.str a.tx a.tt))
  oS : a.oS.data = .cell (some (.ref a.sp))
  len : a.tx.length ≤ 5000
  s3 : @Ne Nat a.sp a.y
  s4 : @Ne Nat a.sp a.dy
  s5 : @Ne Nat a.sp a.f
  s6 : @Ne Nat a.sp a.c
  s7 : @Ne Nat a.sp a.cs
  s8 : @Ne Nat a.sp a.ct
noncomputable def Lx.S (a : Lx) (w : World) (ti : Tok) : List (Addr × Obj) :=
  [(a.sp, W.listOf #[Value.int 0 ti] 0), (a.y, W.instObj 103 a.dy), (a.dy, a.eO w), (a.f, a.fo), (a.c, a.oc), (a.cs, a.oS), (a.ct, a.oT)]
theorem mk_stream {w : World} {g h' : Heap} {L : Addr} {y dy qb f c ct cs sp : Addr} {r1 r2 r3 r4 r5 rl rw ti tt : Tok} {fo oc oT oS oq o130 : Obj} {nm qual : Str} {ps : Arguments} {bd : List Stmt} {sc : Scope} {doc pm ctv : Value} {tx : Str}
    (N : News g L h' [(f, fo), (c, oc), (sp, W.listOf #[Value.int 0 ti] 0), (qb, oq), (y, W.instObj 103 dy), (dy, W.dictOf [ent w "lineno" r1 (.int 1 rl), ent w "instream" r2 .none, ent w "whitespace" r3 (.str (Str.ofString "\n\t\r ") rw), ent w "pushback" r4 (.ref qb), ent w "read" r5 (.ref f)] 5), (cs, oS), (ct, oT), (130, o130)])
    (pick : pickDef (bodyAt (hd.heap_1 w.params) 135) = some (nm, ps, bd, sc)) (hfo : fo.data = .func (fnX nm qual ps bd sc [(Str.ofString "text", ct), (Str.ofString "spot", cs)] .none .none doc pm none (.ref c) ctv))
    (hoc : ∃ vs t, oc.data = .fields vs ∧ vs[1]? = some (.str qual t)) (hT : oT.data = .cell (some (.str tx tt))) (hS : oS.data = .cell (some (.ref sp))) (len : tx.length ≤ 5000)
    (s3 : @Ne Nat sp y) (s4 : @Ne Nat sp dy) (s5 : @Ne Nat sp f) (s6 : @Ne Nat sp c) (s7 : @Ne Nat sp cs) (s8 : @Ne Nat sp ct) :
    ∃ (a : Lx) (ti : Tok), a.SOk w ∧ a.tx = tx ∧ a.y = y ∧ News g L h' (a.S w ti) ∧ (∀ p ∈ a.S w ti, p.1 = sp ∨ p.1 = y ∨ p.1 = dy ∨ p.1 = f ∨ p.1 = c ∨ p.1 = cs ∨ p.1 = ct) := by
  refine ⟨⟨0, 0, 0, y, dy, qb, f, c, ct, cs, sp, 0, 0, 0, 0, 0, r1, r2, r3, r4, r5, rl, rw, tx, tt, fo, oc, oT, oS, qual, doc, pm, ctv, nm, ps, bd, sc⟩, ti, ⟨pick, hfo, hoc, hT, hS, len, s3, s4, s5, s6, s7, s8⟩, rfl, rfl, N.perm fun p hp => ?_, fun p hp => ?_⟩
  · simp only [Lx.S, List.mem_cons, List.not_mem_nil, or_false] at hp ⊢
    rcases hp with h | h | h | h | h | h | h <;> simp only [h, true_or, or_true]
  · simp only [Lx.S, List.mem_cons, List.not_mem_nil, or_false] at hp
    rcases hp with h | h | h | h | h | h | h <;> simp only [h, true_or, or_true]
theorem c_stream {prog : Program} {w : World} {A : Around} {s : Shared} {R : Result → Shared → Prop} {p : Program} {loose : List Str} {mg mb : Str → Option Value}
    (h1 : A.handled = none) (h2 : A.depth ≤ 600) (h3 : A.units ≤ 300) {mean : ExcName → Option Value} {tx : Str} {t : Tok} (hM : ∀ p ∈ [((130 : Addr), tabObj #[])], s.heap.get? p.1 = some p.2) (X : (hd.heap_1 w.params).In (hidden s.heap [((130 : Addr), tabObj #[])])) (T' : Top p loose mean mg mb (hidden s.heap [((130 : Addr), tabObj #[])]))
    (CH : CodeHd (hidden s.heap [((130 : Addr), tabObj #[])]) 134 130)
    (htx : tx.length ≤ 5000)
    (h : ∀ h' tk (a : Lx) ti, (hidden s.heap [((130 : Addr), tabObj #[])]).StaysIn h' → a.SOk w → a.tx = tx → (∀ p ∈ a.S w ti, h'.get? p.1 = some p.2 ∧ s.heap.get? p.1 = none) → (∃ ps, h'.get? 130 = some (tabObj ps)) → R (.ok (.ret (.ref a.y))) { s with heap := h', toks := tk }) :
    codeAny (model prog w) A (.call (.ref 135) ⟨[.str tx t], []⟩) R s := by
  have T := topRead_of T'
  refine code_weak (d := 600) (u := 300) (by assumption) (by assumption) (by assumption) ?_
  refine' enterC (by assumption) (TopRead.nolimit (by assumption)) (fun _ _ e => of_hideAll _ e) (Nat.le_of_eq (hideAll_size _ _)) (enterM_news hM) ?ho ?hcd ?hroom ?hb ?hkind ?hnd ?_ ?e1 ?e2 ?e3
  (case ho => k_is); (case hcd => k_is); (case hroom => decide); (case hb => exact BindsTo.of_eq rfl); (case hkind => exact rfl); (case hnd => decide +kernel)
  (case e1 => exact rfl); (case e2 => exact rfl); (case e3 => exact rfl)
  intro L' h₁ tk' cells' F' N' Y' l1 hL'; (try k_lt l1); k_cells Y'; (try simp only [List.cons_append, List.nil_append] at N'); (try dsimp only); (show wpAny _ _ _ _ _ _); k_fold
  rename (_ = Data.cell _) => d1
  replace d1 : _ = Data.cell (some (Value.str tx t)) := d1
  ((try ((with_reducible show wpAny _ _ (execs _ _) _ _ _); (fail_if_success (with_reducible show wpAny _ _ _ Qh _ _)); refine hideQ ?_; intro Qh hQh)); repeat' ((fail_if_success (with_reducible show wpAny _ _ (exec (PySem.Stmt.Assign _ (PySem.Expr.ListComp _ _ _ _) _) _) _ _ _)); (fail_if_success (with_reducible show wpAny _ _ (exec (PySem.Stmt.For _ _ _ _ _) _) _ _ _)); (fail_if_success (with_reducible show wpAny _ _ (eval (PySem.Expr.ListComp _ _ _ _) _) _ _ _)); (fail_if_success (with_reducible show CElt _ _ _ _ _ _ _ _ _ _ _)); (fail_if_success (with_reducible show wpAny _ _ (call (Value.ref _) _ _) _ _ _)); (first | walk1 | (dsimp only; walk1) | (with_reducible apply Hid.use; with_reducible assumption))))
  refine' call_cls ?k1 ?k2 ?k3 ?k4 ?k5 ?k6 ?_
  (case k1 => k_asm); (case k2 => k_asm); (case k3 => k_asm); (case k4 => k_is); (case k5 => k_is); (case k6 => k_is)
  intro x dx h2 F2 N2 l1 l2
  refine c_init rfl (Nat.le_of_ble_eq_true rfl) (Nat.le_of_ble_eq_true rfl) (fun p hp => (N2 p (mem2 hp)).1) (X.keeps (hidden_keep F2.keep fun p hp => (N2 p (mem2 hp)).2.2)) (T.keeps (hidden_keep F2.keep fun p hp => (N2 p (mem2 hp)).2.2)) l2 ?_
  intro h3 tk3 pb t1 t2 t3 t4 tl tw st e1 e2 e3 e4
  refine ⟨rfl, ?_⟩
  (try (with_reducible apply Hid.use; with_reducible assumption)); (try dsimp only)
  dsimp only [ent] at e1
  obtain ⟨F3, N3⟩ := back_cls F2 N2 l1 l2 st e1 e2 e3 e4
  have np : ∀ q : Addr × Obj, q ∈ _ → @Ne Nat q.1 pb := fun q hq e => by
    have z := (N2 q hq).1
    rw [show q.1 = pb from e, e3] at z; cases z
  have q1 : @Ne Nat x pb := np _ (.head _)
  have q2 : @Ne Nat dx pb := np _ (.tail _ (.head _))
  have q3 : @Ne Nat (L' + 1 + 1) pb := np _ (.tail _ (.tail _ (.head _)))
  have q4 : @Ne Nat (L' + 1) pb := np _ (.tail _ (.tail _ (.tail _ (.head _))))
  have q5 : @Ne Nat 130 pb := np _ (.tail _ (.tail _ (.tail _ (.tail _ (.head _)))))
  have q6 : @LT.lt Nat _ (L' + 1 + 1) dx := l1 _ (.head _)
  have q7 : @LT.lt Nat _ dx x := l2
  have q8 : @LT.lt Nat _ 130 L' := by rw [hL']; exact Heap.lt_size (hM _ (.head _))
  clear np
  clear F2 N2
  ((try ((with_reducible show wpAny _ _ (execs _ _) _ _ _); (fail_if_success (with_reducible show wpAny _ _ _ Qh _ _)); refine hideQ ?_; intro Qh hQh)); repeat' ((fail_if_success (with_reducible show wpAny _ _ (exec (PySem.Stmt.Assign _ (PySem.Expr.ListComp _ _ _ _) _) _) _ _ _)); (fail_if_success (with_reducible show wpAny _ _ (exec (PySem.Stmt.For _ _ _ _ _) _) _ _ _)); (fail_if_success (with_reducible show wpAny _ _ (eval (PySem.Expr.ListComp _ _ _ _) _) _ _ _)); (fail_if_success (with_reducible show CElt _ _ _ _ _ _ _ _ _ _ _)); (fail_if_success (with_reducible show wpAny _ _ (call (Value.ref _) _ _) _ _ _)); (first | walk1 | (dsimp only; walk1) | (with_reducible apply Hid.use; with_reducible assumption))))
  (try (with_reducible apply Hid.use; with_reducible assumption)); (try dsimp only)
  try k_unfold
  (try (with_reducible apply Hid.use; with_reducible assumption)); (try dsimp only)
  rename News _ _ _ _ => N4
  rename Fr _ _ _ _ => F4
  rename (_ = Data.cell (some (Value.ref _))) => dS
  rename (_ = Data.fields _) => dC
  rename (_ = some (Value.str (qualnameIn _ _ _) _)) => dV
  rename (pb < _ ∧ x < _ ∧ _) => m1
  rename (_ < _ ∧ pb < _ ∧ x < _ ∧ _) => m2
  rename (_ < _) => m3
  obtain ⟨a, ti, sok, htx', hy, NS, hk⟩ := mk_stream N4 (by with_unfolding_all rfl) rfl ⟨_, _, dC, dV⟩ d1 dS htx (Nat.ne_of_gt m1.2.1) (Nat.ne_of_gt m1.2.2.1) (Nat.ne_of_lt (Nat.lt_trans m2.1 m3)) (Nat.ne_of_lt m2.1) (Nat.ne_of_gt m1.2.2.2.1) (Nat.ne_of_gt m1.2.2.2.2.1)
  rw [← hy]
  refine h _ _ a ti F4.keep sok htx' (fun p hp => ⟨(NS p hp).1, ?_⟩) ⟨_, News.get N4 (.tail _ (.tail _ (.tail _ (.tail _ (.tail _ (.tail _ (.tail _ (.tail _ (.head _))))))))) ⟩
  have b1 : @LT.lt Nat _ 130 dx := Nat.lt_trans q8 (Nat.lt_trans (Nat.lt_succ_of_lt (Nat.lt_succ_self _)) q6)
  have hne : @Ne Nat p.1 130 := by
    rcases hk p hp with e | e | e | e | e | e | e <;> rw [e]
    · exact Nat.ne_of_gt m1.2.2.2.2.2
    · exact Nat.ne_of_gt (Nat.lt_trans b1 q7)
    · exact Nat.ne_of_gt b1
    · exact Nat.ne_of_gt (Nat.lt_trans m2.2.2.2.2.2.2 m3)
    · exact Nat.ne_of_gt m2.2.2.2.2.2.2
    · exact Nat.ne_of_gt (Nat.lt_trans q8 (Nat.lt_succ_of_lt (Nat.lt_succ_self _)))
    · exact Nat.ne_of_gt (Nat.lt_trans q8 (Nat.lt_succ_self _))
  cases q : s.heap.get? p.1 with
  | none => rfl
  | some o =>
    have z1 := hidden_get (M := [((130 : Addr), tabObj #[])]) q (fun hm => hne (List.mem_singleton.mp hm))
    have z2 : (hidden s.heap [((130 : Addr), tabObj #[])]).get? p.1 = none := (NS p hp).2.2
    rw [z2] at z1; cases z1

end
/-! C_all -/
section
noncomputable def allOf : List Int := sums3 [0, 1, 8] [0, 2, 16] [0, 4, 32]
theorem c_all {prog : Program} {w : World} {A : Around} {s : Shared} {R : Result → Shared → Prop} {p : Program} {loose : List Str} {mg mb : Str → Option Value}
    (h1 : A.handled = none) (h2 : A.depth ≤ 700) (h3 : A.units ≤ 400)
    (X : (hd.heap_1 w.params).In s.heap) (T : TopRead p loose mg mb s.heap) (h : ∀ l h' tk vs, s.heap.StaysIn h' → s.heap.get? l = none → h'.get? l = some (W.listOf vs.toArray vs.length) → IntsAre vs allOf → R (.ok (.ret (.ref l))) { s with heap := h', toks := tk }) :
    codeAny (model prog w) A (.call (.ref 209) ⟨[], []⟩) R s := by
  refine code_weak (d := 700) (u := 400) (by assumption) (by assumption) (by assumption) ?_
  refine' enter (by assumption) (TopRead.nolimit (by assumption)) (fun _ _ e => e) (Nat.le_refl _) (news := []) (fun _ hp => nomatch hp) ?ho ?hcd ?hroom ?hb ?hloc ?_ ?e1 ?e2 ?e3 ?e4
  (case ho => k_is); (case hcd => k_is); (case hroom => decide); (case hb => exact BindsTo.of_eq rfl); (case hloc => exact locs rfl)
  (case e1 => exact rfl); (case e2 => exact rfl); (case e3 => exact rfl); (case e4 => decide)
  intro L' h₁ F' N' hL'; (try dsimp only); (show wpAny _ _ _ _ _ _); k_fold
  ((try ((with_reducible show wpAny _ _ (execs _ _) _ _ _); (fail_if_success (with_reducible show wpAny _ _ _ Qh _ _)); refine hideQ ?_; intro Qh hQh)); repeat' ((fail_if_success (with_reducible show wpAny _ _ (exec (PySem.Stmt.Assign _ (PySem.Expr.ListComp _ _ _ _) _) _) _ _ _)); (fail_if_success (with_reducible show wpAny _ _ (exec (PySem.Stmt.For _ _ _ _ _) _) _ _ _)); (fail_if_success (with_reducible show wpAny _ _ (eval (PySem.Expr.ListComp _ _ _ _) _) _ _ _)); (first | walk1 | (dsimp only; walk1) | (with_reducible apply Hid.use; with_reducible assumption))))
  refine CompG_ (by rfl) ?_
  rename Fr _ _ _ _ => F1
  refine sums3_at [0, 1, 8] [0, 2, 16] [0, 4, 32] rfl evTup3 evTup3 evTup3 (by decide) (by decide) (by decide) (fun _ _ => rfl) (fun _ _ => rfl) ?_
  intro D C h2 h1' tk2 ys m' f hys k F N
  refine fin_ret k F N fun h' k' n e => ?_
  (try (with_reducible apply Hid.use; with_reducible assumption)); (try dsimp only)
  try k_unfold
  (try (with_reducible apply Hid.use; with_reducible assumption)); (try dsimp only)
  exact h _ _ _ _ (fun b o q => k' _ _ (F1.keep _ _ q)) (F1.noneBack n) e hys

end
/-! C_bits -/
section
noncomputable def bitOf (p : Int) : Int := 2 ^ (p - 253).toNat
noncomputable def maskOf (c : List Int) : Int := (c.map bitOf).sum
theorem bit_range {p : Int} (h : 253 ≤ p ∧ p ≤ 258) : 1 ≤ bitOf p ∧ bitOf p ≤ 32 := by
  obtain ⟨h1, h2⟩ := h
  have : p = 253 ∨ p = 254 ∨ p = 255 ∨ p = 256 ∨ p = 257 ∨ p = 258 := by omega
  rcases this with rfl | rfl | rfl | rfl | rfl | rfl <;> decide
theorem Heap.IsTuple.at {h h' : Heap} {a : Addr} {its : Array Value} (x : h.IsTuple a its) (k : ∀ o, h.get? a = some o → h'.get? a = some o) : h'.IsTuple a its :=
  let ⟨o, e, r⟩ := x; ⟨o, k _ e, r⟩

theorem c_bitsL {prog : Program} {w : World} {A : Around} {s : Shared} {R : Result → Shared → Prop} {p : Program} {loose : List Str} {mg mb : Str → Option Value}
    (h1 : A.handled = none) (h2 : A.depth ≤ 700) (h3 : A.units ≤ 400)
    (X : (hd.heap_1 w.params).In s.heap) (T : TopRead p loose mg mb s.heap) {l : Addr} {rows : List (Addr × List Value)} {cls : List (List Int)} (hl : s.heap.IsList l (rows.map fun r => Value.ref r.1).toArray) (hr : ∀ r ∈ rows, s.heap.IsList r.1 r.2.toArray) (hi : rows.length = cls.length) (hir : ∀ (k : Nat) r c, rows[k]? = some r → cls[k]? = some c → IntsAre r.2 c)
    (hlen : cls.length ≤ 100) (hc : ∀ c ∈ cls, c.length ≤ 3 ∧ ∀ x ∈ c, 253 ≤ x ∧ x ≤ 258)
    (h : ∀ l h' tk vs, s.heap.StaysIn h' → s.heap.get? l = none → h'.get? l = some (W.listOf vs.toArray vs.length) → IntsAre vs (cls.map maskOf) → R (.ok (.ret (.ref l))) { s with heap := h', toks := tk }) :
    codeAny (model prog w) A (.call (.ref 204) ⟨[.ref l], []⟩) R s := by
  refine code_weak (d := 700) (u := 400) (by assumption) (by assumption) (by assumption) ?_
  refine' enter (by assumption) (TopRead.nolimit (by assumption)) (fun _ _ e => e) (Nat.le_refl _) (news := []) (fun _ hp => nomatch hp) ?ho ?hcd ?hroom ?hb ?hloc ?_ ?e1 ?e2 ?e3 ?e4
  (case ho => k_is); (case hcd => k_is); (case hroom => decide); (case hb => exact BindsTo.of_eq rfl); (case hloc => exact locs rfl)
  (case e1 => exact rfl); (case e2 => exact rfl); (case e3 => exact rfl); (case e4 => decide)
  intro L' h₁ F' N' hL'; (try dsimp only); (show wpAny _ _ _ _ _ _); k_fold
  ((try ((with_reducible show wpAny _ _ (execs _ _) _ _ _); (fail_if_success (with_reducible show wpAny _ _ _ Qh _ _)); refine hideQ ?_; intro Qh hQh)); repeat' ((fail_if_success (with_reducible show wpAny _ _ (exec (PySem.Stmt.Assign _ (PySem.Expr.ListComp _ _ _ _) _) _) _ _ _)); (fail_if_success (with_reducible show wpAny _ _ (exec (PySem.Stmt.For _ _ _ _ _) _) _ _ _)); (fail_if_success (with_reducible show wpAny _ _ (eval (PySem.Expr.ListComp _ _ _ _) _) _ _ _)); (first | walk1 | (dsimp only; walk1) | (with_reducible apply Hid.use; with_reducible assumption))))
  refine Comp_ (by rfl) ?_
  ((try ((with_reducible show wpAny _ _ (execs _ _) _ _ _); (fail_if_success (with_reducible show wpAny _ _ _ Qh _ _)); refine hideQ ?_; intro Qh hQh)); repeat' ((fail_if_success (with_reducible show wpAny _ _ (exec (PySem.Stmt.Assign _ (PySem.Expr.ListComp _ _ _ _) _) _) _ _ _)); (fail_if_success (with_reducible show wpAny _ _ (exec (PySem.Stmt.For _ _ _ _ _) _) _ _ _)); (fail_if_success (with_reducible show wpAny _ _ (eval (PySem.Expr.ListComp _ _ _ _) _) _ _ _)); (first | walk1 | (dsimp only; walk1) | (with_reducible apply Hid.use; with_reducible assumption))))
  rename Fr _ _ _ _ => F1
  rename News _ _ _ _ => N1
  have hl1 := hl.at fun o e => F1.keep _ o e
  have X1 := X.keeps F1.keep
  have T1 := T.keeps F1.keep
  refine comp_list (fun i ys news => news = [] ∧ IntsAre ys ((cls.take i).map maskOf)) rfl hl1 (by rw [List.size_toArray, List.length_map, hi, sizeLine_eq]; omega) ⟨rfl, .nil⟩ ?_ ?_
  · rintro i v ys news I C D oI g tk E' hv ⟨rfl, hys⟩ F2 N2 ha hDI
    obtain ⟨r, hr1, rfl⟩ : ∃ r, rows[i]? = some r ∧ v = .ref r.1 := by
      have : ((rows.map fun r => Value.ref r.1))[i]? = some v := by simpa using hv
      rw [List.getElem?_map] at this
      obtain ⟨r, e1, e2⟩ := Option.map_eq_some_iff.mp this
      exact ⟨r, e1, e2.symm⟩
    have hlt : i < cls.length := by rw [← hi]; exact (List.getElem?_eq_some_iff.mp hr1).1
    have hci : cls[i]? = some cls[i] := List.getElem?_eq_getElem hlt
    have hI := hir i r _ hr1 hci
    obtain ⟨hc3, hcp⟩ := hc _ (List.getElem_mem hlt)
    generalize cls[i] = c at *
    refine tests_nil ?_
    refine CTest.intro [] F2 N2 (fun p hp => hp) (fun _ hp => nomatch hp) ?_
    rw [if_pos rfl]
    intro oI h tk E' F3 N3
    ((try ((with_reducible show wpAny _ _ (execs _ _) _ _ _); (fail_if_success (with_reducible show wpAny _ _ _ Qh _ _)); refine hideQ ?_; intro Qh hQh)); repeat' ((fail_if_success (with_reducible show wpAny _ _ (exec (PySem.Stmt.Assign _ (PySem.Expr.ListComp _ _ _ _) _) _) _ _ _)); (fail_if_success (with_reducible show wpAny _ _ (exec (PySem.Stmt.For _ _ _ _ _) _) _ _ _)); (fail_if_success (with_reducible show wpAny _ _ (eval (PySem.Expr.ListComp _ _ _ _) _) _ _ _)); (first | walk1 | (dsimp only; walk1) | (with_reducible apply Hid.use; with_reducible assumption))))
    refine Comp_ (by rfl) ?_
    ((try ((with_reducible show wpAny _ _ (execs _ _) _ _ _); (fail_if_success (with_reducible show wpAny _ _ _ Qh _ _)); refine hideQ ?_; intro Qh hQh)); repeat' ((fail_if_success (with_reducible show wpAny _ _ (exec (PySem.Stmt.Assign _ (PySem.Expr.ListComp _ _ _ _) _) _) _ _ _)); (fail_if_success (with_reducible show wpAny _ _ (exec (PySem.Stmt.For _ _ _ _ _) _) _ _ _)); (fail_if_success (with_reducible show wpAny _ _ (eval (PySem.Expr.ListComp _ _ _ _) _) _ _ _)); (first | walk1 | (dsimp only; walk1) | (with_reducible apply Hid.use; with_reducible assumption))))
    rename Fr _ _ _ _ => F4
    rename News _ _ _ _ => N4
    have hl4 := (hr r (List.mem_of_getElem? hr1)).at fun o e => F4.keep _ o (F1.keep _ o e)
    refine comp_list (fun j zs news => news = [] ∧ IntsAre zs ((c.take j).map bitOf)) rfl hl4 (by rw [List.size_toArray, hI.length, sizeLine_eq]; omega) ⟨rfl, .nil⟩ ?_ ?_
    · rintro j v zs news I2 C2 D2 oI2 g2 tk2 E2 hv2 ⟨rfl, hzs⟩ F5 N5 ha2 hDI2
      obtain ⟨x, t, rfl, hx⟩ := hI.at j v (by simpa using hv2)
      obtain ⟨hx1, hx2⟩ := hcp x (List.mem_of_getElem? hx)
      refine tests_nil ?_
      refine CTest.intro [] F5 N5 (fun p hp => hp) (fun _ hp => nomatch hp) ?_
      rw [if_pos rfl]
      intro oI3 h3 tk3 E3 F6 N6
      ((try ((with_reducible show wpAny _ _ (execs _ _) _ _ _); (fail_if_success (with_reducible show wpAny _ _ _ Qh _ _)); refine hideQ ?_; intro Qh hQh)); repeat' ((fail_if_success (with_reducible show wpAny _ _ (exec (PySem.Stmt.Assign _ (PySem.Expr.ListComp _ _ _ _) _) _) _ _ _)); (fail_if_success (with_reducible show wpAny _ _ (exec (PySem.Stmt.For _ _ _ _ _) _) _ _ _)); (fail_if_success (with_reducible show wpAny _ _ (eval (PySem.Expr.ListComp _ _ _ _) _) _ _ _)); (first | walk1 | (dsimp only; walk1) | (with_reducible apply Hid.use; with_reducible assumption))))
      refine CElt.intro [] (by k_asm) (by k_asm) (fun p hp => hp) (fun _ hp => nomatch hp) ⟨rfl, ?_⟩
      rw [List.take_add_one, hx, List.map_append, show (1 : Int) * 2 ^ (x - 253).toNat = bitOf x from Int.one_mul _]
      exact ints_snoc hzs
    · rintro D2 g2 tk2 zs news ⟨rfl, hzs⟩ k2 hN2 _
      obtain ⟨F5, N5, o5⟩ := added F4 N4 k2 hN2
      rw [List.size_toArray, hI.length, List.take_length] at hzs
      have hzb : ∀ x ∈ c.map bitOf, 1 ≤ x ∧ x ≤ 32 := by
        intro x hx
        obtain ⟨p, hp, rfl⟩ := List.mem_map.mp hx
        exact bit_range (hcp p hp)
      clear F4 N4
      have hzl : (c.map bitOf).length ≤ 3 := by rw [List.length_map]; exact hc3
      generalize hcm : c.map bitOf = cm at *
      ((try ((with_reducible show wpAny _ _ (execs _ _) _ _ _); (fail_if_success (with_reducible show wpAny _ _ _ Qh _ _)); refine hideQ ?_; intro Qh hQh)); repeat' ((fail_if_success (with_reducible show wpAny _ _ (exec (PySem.Stmt.Assign _ (PySem.Expr.ListComp _ _ _ _) _) _) _ _ _)); (fail_if_success (with_reducible show wpAny _ _ (exec (PySem.Stmt.For _ _ _ _ _) _) _ _ _)); (fail_if_success (with_reducible show wpAny _ _ (eval (PySem.Expr.ListComp _ _ _ _) _) _ _ _)); (first | walk1 | (dsimp only; walk1) | (with_reducible apply Hid.use; with_reducible assumption))))
      (try (with_reducible apply Hid.use; with_reducible assumption)); (try dsimp only)
      refine CElt.intro [] (by k_asm) (by k_asm) (fun p hp => by
        simp only [List.mem_cons, List.not_mem_nil, or_false] at hp
        rcases hp with rfl | rfl
        · exact .tail _ (.head _)
        · exact .tail _ (.tail _ (.head _))) (fun _ hp => nomatch hp) ⟨rfl, ?_⟩
      rw [List.take_add_one, hci, List.map_append]
      have e : maskOf c = cm.sum := by unfold maskOf; rw [hcm]
      rw [show (some c).toList.map maskOf = [cm.sum] from congrArg (fun z => [z]) e]
      exact ints_snoc hys
  · rintro D g tk ys news ⟨rfl, hy⟩ k hN _
    obtain ⟨F2, N2, o2⟩ := added F1 N1 k hN
    (try (with_reducible apply Hid.use; with_reducible assumption)); (try dsimp only)
    rw [List.size_toArray, List.length_map, hi, List.take_length] at hy
    exact h _ _ _ _ F2.keep (News.fresh N2 (.head _)) (News.get N2 (.head _)) hy

theorem c_bitsT {prog : Program} {w : World} {A : Around} {s : Shared} {R : Result → Shared → Prop} {p : Program} {loose : List Str} {mg mb : Str → Option Value}
    (h1 : A.handled = none) (h2 : A.depth ≤ 700) (h3 : A.units ≤ 400)
    (X : (hd.heap_1 w.params).In s.heap) (T : TopRead p loose mg mb s.heap) {l : Addr} {rows : List (Addr × List Value)} {cls : List (List Int)} (hl : s.heap.IsList l (rows.map fun r => Value.ref r.1).toArray) (hr : ∀ r ∈ rows, s.heap.IsTuple r.1 r.2.toArray) (hi : rows.length = cls.length) (hir : ∀ (k : Nat) r c, rows[k]? = some r → cls[k]? = some c → IntsAre r.2 c)
    (hlen : cls.length ≤ 100) (hc : ∀ c ∈ cls, c.length ≤ 3 ∧ ∀ x ∈ c, 253 ≤ x ∧ x ≤ 258)
    (h : ∀ l h' tk vs, s.heap.StaysIn h' → s.heap.get? l = none → h'.get? l = some (W.listOf vs.toArray vs.length) → IntsAre vs (cls.map maskOf) → R (.ok (.ret (.ref l))) { s with heap := h', toks := tk }) :
    codeAny (model prog w) A (.call (.ref 204) ⟨[.ref l], []⟩) R s := by
  refine code_weak (d := 700) (u := 400) (by assumption) (by assumption) (by assumption) ?_
  refine' enter (by assumption) (TopRead.nolimit (by assumption)) (fun _ _ e => e) (Nat.le_refl _) (news := []) (fun _ hp => nomatch hp) ?ho ?hcd ?hroom ?hb ?hloc ?_ ?e1 ?e2 ?e3 ?e4
  (case ho => k_is); (case hcd => k_is); (case hroom => decide); (case hb => exact BindsTo.of_eq rfl); (case hloc => exact locs rfl)
  (case e1 => exact rfl); (case e2 => exact rfl); (case e3 => exact rfl); (case e4 => decide)
  intro L' h₁ F' N' hL'; (try dsimp only); (show wpAny _ _ _ _ _ _); k_fold
  ((try ((with_reducible show wpAny _ _ (execs _ _) _ _ _); (fail_if_success (with_reducible show wpAny _ _ _ Qh _ _)); refine hideQ ?_; intro Qh hQh)); repeat' ((fail_if_success (with_reducible show wpAny _ _ (exec (PySem.Stmt.Assign _ (PySem.Expr.ListComp _ _ _ _) _) _) _ _ _)); (fail_if_success (with_reducible show wpAny _ _ (exec (PySem.Stmt.For _ _ _ _ _) _) _ _ _)); (fail_if_success (with_reducible show wpAny _ _ (eval (PySem.Expr.ListComp _ _ _ _) _) _ _ _)); (first | walk1 | (dsimp only; walk1) | (with_reducible apply Hid.use; with_reducible assumption))))
  refine Comp_ (by rfl) ?_
  ((try ((with_reducible show wpAny _ _ (execs _ _) _ _ _); (fail_if_success (with_reducible show wpAny _ _ _ Qh _ _)); refine hideQ ?_; intro Qh hQh)); repeat' ((fail_if_success (with_reducible show wpAny _ _ (exec (PySem.Stmt.Assign _ (PySem.Expr.ListComp _ _ _ _) _) _) _ _ _)); (fail_if_success (with_reducible show wpAny _ _ (exec (PySem.Stmt.For _ _ _ _ _) _) _ _ _)); (fail_if_success (with_reducible show wpAny _ _ (eval (PySem.Expr.ListComp _ _ _ _) _) _ _ _)); (first | walk1 | (dsimp only; walk1) | (with_reducible apply Hid.use; with_reducible assumption))))
  rename Fr _ _ _ _ => F1
  rename News _ _ _ _ => N1
  have hl1 := hl.at fun o e => F1.keep _ o e
  have X1 := X.keeps F1.keep
  have T1 := T.keeps F1.keep
  refine comp_list (fun i ys news => news = [] ∧ IntsAre ys ((cls.take i).map maskOf)) rfl hl1 (by rw [List.size_toArray, List.length_map, hi, sizeLine_eq]; omega) ⟨rfl, .nil⟩ ?_ ?_
  · rintro i v ys news I C D oI g tk E' hv ⟨rfl, hys⟩ F2 N2 ha hDI
    obtain ⟨r, hr1, rfl⟩ : ∃ r, rows[i]? = some r ∧ v = .ref r.1 := by
      have : ((rows.map fun r => Value.ref r.1))[i]? = some v := by simpa using hv
      rw [List.getElem?_map] at this
      obtain ⟨r, e1, e2⟩ := Option.map_eq_some_iff.mp this
      exact ⟨r, e1, e2.symm⟩
    have hlt : i < cls.length := by rw [← hi]; exact (List.getElem?_eq_some_iff.mp hr1).1
    have hci : cls[i]? = some cls[i] := List.getElem?_eq_getElem hlt
    have hI := hir i r _ hr1 hci
    obtain ⟨hc3, hcp⟩ := hc _ (List.getElem_mem hlt)
    generalize cls[i] = c at *
    refine tests_nil ?_
    refine CTest.intro [] F2 N2 (fun p hp => hp) (fun _ hp => nomatch hp) ?_
    rw [if_pos rfl]
    intro oI h tk E' F3 N3
    ((try ((with_reducible show wpAny _ _ (execs _ _) _ _ _); (fail_if_success (with_reducible show wpAny _ _ _ Qh _ _)); refine hideQ ?_; intro Qh hQh)); repeat' ((fail_if_success (with_reducible show wpAny _ _ (exec (PySem.Stmt.Assign _ (PySem.Expr.ListComp _ _ _ _) _) _) _ _ _)); (fail_if_success (with_reducible show wpAny _ _ (exec (PySem.Stmt.For _ _ _ _ _) _) _ _ _)); (fail_if_success (with_reducible show wpAny _ _ (eval (PySem.Expr.ListComp _ _ _ _) _) _ _ _)); (first | walk1 | (dsimp only; walk1) | (with_reducible apply Hid.use; with_reducible assumption))))
    refine Comp_ (by rfl) ?_
    ((try ((with_reducible show wpAny _ _ (execs _ _) _ _ _); (fail_if_success (with_reducible show wpAny _ _ _ Qh _ _)); refine hideQ ?_; intro Qh hQh)); repeat' ((fail_if_success (with_reducible show wpAny _ _ (exec (PySem.Stmt.Assign _ (PySem.Expr.ListComp _ _ _ _) _) _) _ _ _)); (fail_if_success (with_reducible show wpAny _ _ (exec (PySem.Stmt.For _ _ _ _ _) _) _ _ _)); (fail_if_success (with_reducible show wpAny _ _ (eval (PySem.Expr.ListComp _ _ _ _) _) _ _ _)); (first | walk1 | (dsimp only; walk1) | (with_reducible apply Hid.use; with_reducible assumption))))
    rename Fr _ _ _ _ => F4
    rename News _ _ _ _ => N4
    have hl4 := (hr r (List.mem_of_getElem? hr1)).at fun o e => F4.keep _ o (F1.keep _ o e)
    refine comp_tup (fun j zs news => news = [] ∧ IntsAre zs ((c.take j).map bitOf)) rfl hl4 (by rw [List.size_toArray, hI.length, sizeLine_eq]; omega) ⟨rfl, .nil⟩ ?_ ?_
    · rintro j v zs news I2 C2 D2 oI2 g2 tk2 E2 hv2 ⟨rfl, hzs⟩ F5 N5 ha2 hDI2
      obtain ⟨x, t, rfl, hx⟩ := hI.at j v (by simpa using hv2)
      obtain ⟨hx1, hx2⟩ := hcp x (List.mem_of_getElem? hx)
      refine tests_nil ?_
      refine CTest.intro [] F5 N5 (fun p hp => hp) (fun _ hp => nomatch hp) ?_
      rw [if_pos rfl]
      intro oI3 h3 tk3 E3 F6 N6
      ((try ((with_reducible show wpAny _ _ (execs _ _) _ _ _); (fail_if_success (with_reducible show wpAny _ _ _ Qh _ _)); refine hideQ ?_; intro Qh hQh)); repeat' ((fail_if_success (with_reducible show wpAny _ _ (exec (PySem.Stmt.Assign _ (PySem.Expr.ListComp _ _ _ _) _) _) _ _ _)); (fail_if_success (with_reducible show wpAny _ _ (exec (PySem.Stmt.For _ _ _ _ _) _) _ _ _)); (fail_if_success (with_reducible show wpAny _ _ (eval (PySem.Expr.ListComp _ _ _ _) _) _ _ _)); (first | walk1 | (dsimp only; walk1) | (with_reducible apply Hid.use; with_reducible assumption))))
      refine CElt.intro [] (by k_asm) (by k_asm) (fun p hp => hp) (fun _ hp => nomatch hp) ⟨rfl, ?_⟩
      rw [List.take_add_one, hx, List.map_append, show (1 : Int) * 2 ^ (x - 253).toNat = bitOf x from Int.one_mul _]
      exact ints_snoc hzs
    · rintro D2 g2 tk2 zs news ⟨rfl, hzs⟩ k2 hN2 _
      obtain ⟨F5, N5, o5⟩ := added F4 N4 k2 hN2
      rw [List.size_toArray, hI.length, List.take_length] at hzs
      have hzb : ∀ x ∈ c.map bitOf, 1 ≤ x ∧ x ≤ 32 := by
        intro x hx
        obtain ⟨p, hp, rfl⟩ := List.mem_map.mp hx
        exact bit_range (hcp p hp)
      clear F4 N4
      have hzl : (c.map bitOf).length ≤ 3 := by rw [List.length_map]; exact hc3
      generalize hcm : c.map bitOf = cm at *
      ((try ((with_reducible show wpAny _ _ (execs _ _) _ _ _); (fail_if_success (with_reducible show wpAny _ _ _ Qh _ _)); refine hideQ ?_; intro Qh hQh)); repeat' ((fail_if_success (with_reducible show wpAny _ _ (exec (PySem.Stmt.Assign _ (PySem.Expr.ListComp _ _ _ _) _) _) _ _ _)); (fail_if_success (with_reducible show wpAny _ _ (exec (PySem.Stmt.For _ _ _ _ _) _) _ _ _)); (fail_if_success (with_reducible show wpAny _ _ (eval (PySem.Expr.ListComp _ _ _ _) _) _ _ _)); (first | walk1 | (dsimp only; walk1) | (with_reducible apply Hid.use; with_reducible assumption))))
      (try (with_reducible apply Hid.use; with_reducible assumption)); (try dsimp only)
      refine CElt.intro [] (by k_asm) (by k_asm) (fun p hp => by
        simp only [List.mem_cons, List.not_mem_nil, or_false] at hp
        rcases hp with rfl | rfl
        · exact .tail _ (.head _)
        · exact .tail _ (.tail _ (.head _))) (fun _ hp => nomatch hp) ⟨rfl, ?_⟩
      rw [List.take_add_one, hci, List.map_append]
      have e : maskOf c = cm.sum := by unfold maskOf; rw [hcm]
      rw [show (some c).toList.map maskOf = [cm.sum] from congrArg (fun z => [z]) e]
      exact ints_snoc hys
  · rintro D g tk ys news ⟨rfl, hy⟩ k hN _
    obtain ⟨F2, N2, o2⟩ := added F1 N1 k hN
    (try (with_reducible apply Hid.use; with_reducible assumption)); (try dsimp only)
    rw [List.size_toArray, List.length_map, hi, List.take_length] at hy
    exact h _ _ _ _ F2.keep (News.fresh N2 (.head _)) (News.get N2 (.head _)) hy

end
/-! C_have -/
section
noncomputable def haveP (ms : List Int) (n : Int) : Bool := (ms.filter fun p => Builtin.bitAnd n p == p) != []
noncomputable def haveOf (ms : List Int) : List Int := allOf.filter (haveP ms)
theorem c_have {prog : Program} {w : World} {A : Around} {s : Shared} {R : Result → Shared → Prop} {p : Program} {loose : List Str} {mg mb : Str → Option Value}
    (h1 : A.handled = none) (h2 : A.depth ≤ 600) (h3 : A.units ≤ 300)
    (X : (hd.heap_1 w.params).In s.heap) (T : TopRead p loose mg mb s.heap) {l : Addr} {vs : List Value} {ms : List Int} (hl : s.heap.IsList l vs.toArray) (hi : IntsAre vs ms) (hlen : ms.length ≤ 100) (hb : ∀ x ∈ ms, 0 ≤ x ∧ x ≤ 1000)
    (h : ∀ l h' tk vs, s.heap.StaysIn h' → s.heap.get? l = none → h'.get? l = some (W.listOf vs.toArray vs.length) → IntsAre vs (haveOf ms) → R (.ok (.ret (.ref l))) { s with heap := h', toks := tk }) :
    codeAny (model prog w) A (.call (.ref 219) ⟨[.ref l], []⟩) R s := by
  refine code_weak (d := 600) (u := 300) (by assumption) (by assumption) (by assumption) ?_
  refine' enterC (by assumption) (TopRead.nolimit (by assumption)) (fun _ _ e => e) (Nat.le_refl _) (news := []) (fun _ hp => nomatch hp) ?ho ?hcd ?hroom ?hb ?hkind ?hnd ?_ ?e1 ?e2 ?e3
  (case ho => k_is); (case hcd => k_is); (case hroom => decide); (case hb => exact BindsTo.of_eq rfl); (case hkind => exact rfl); (case hnd => decide +kernel)
  (case e1 => exact rfl); (case e2 => exact rfl); (case e3 => exact rfl)
  intro L' h₁ tk' cells' F' N' Y' l1 hL'; (try k_lt l1); k_cells Y'; (try simp only [List.cons_append, List.nil_append] at N'); (try dsimp only); (show wpAny _ _ _ _ _ _); k_fold
  rename (_ = Data.cell _) => d1
  replace d1 : _ = Data.cell (some (Value.ref l)) := d1
  ((try ((with_reducible show wpAny _ _ (execs _ _) _ _ _); (fail_if_success (with_reducible show wpAny _ _ _ Qh _ _)); refine hideQ ?_; intro Qh hQh)); repeat' ((fail_if_success (with_reducible show wpAny _ _ (exec (PySem.Stmt.Assign _ (PySem.Expr.ListComp _ _ _ _) _) _) _ _ _)); (fail_if_success (with_reducible show wpAny _ _ (exec (PySem.Stmt.For _ _ _ _ _) _) _ _ _)); (fail_if_success (with_reducible show wpAny _ _ (eval (PySem.Expr.ListComp _ _ _ _) _) _ _ _)); (first | walk1 | (dsimp only; walk1) | (with_reducible apply Hid.use; with_reducible assumption))))
  refine Comp_ (by rfl) ?_
  ((try ((with_reducible show wpAny _ _ (execs _ _) _ _ _); (fail_if_success (with_reducible show wpAny _ _ _ Qh _ _)); refine hideQ ?_; intro Qh hQh)); repeat' ((fail_if_success (with_reducible show wpAny _ _ (exec (PySem.Stmt.Assign _ (PySem.Expr.ListComp _ _ _ _) _) _) _ _ _)); (fail_if_success (with_reducible show wpAny _ _ (exec (PySem.Stmt.For _ _ _ _ _) _) _ _ _)); (fail_if_success (with_reducible show wpAny _ _ (eval (PySem.Expr.ListComp _ _ _ _) _) _ _ _)); (fail_if_success (with_reducible show CElt _ _ _ _ _ _ _ _ _ _ _)); (fail_if_success (with_reducible show wpAny _ _ (call (Value.ref _) _ _) _ _ _)); (first | walk1 | (dsimp only; walk1) | (with_reducible apply Hid.use; with_reducible assumption))))
  rename Fr _ _ _ _ => F1
  rename News _ _ _ _ => N1
  refine wpAny_call (c_all rfl (Nat.le_of_ble_eq_true rfl) (Nat.le_of_ble_eq_true rfl) (X.keeps F1.keep) (T.keeps F1.keep) ?_)
  intro la h2 tk2 va k e0 e1 hia
  have F2 := F1.keeps k
  have N2 := N1.grown k
  (try (with_reducible apply Hid.use; with_reducible assumption)); (try dsimp only)
  have hla : h2.IsList la va.toArray := ⟨_, e1, rfl, _, rfl⟩
  have X2 := X.keeps F2.keep
  have T2 := T.keeps F2.keep
  have hl2 := hl.at fun o e => F2.keep _ o e
  have hc2 := News.get N2 (.head _)
  refine filterC_ret (haveP ms) rfl hla hia (by decide +kernel) ?_ ?_
  · intro n t ys I C K D oI oK h3 tk3 E' hn hoK F3 N3 dDI dKI dKD
    refine tests_one ?_
    ((try ((with_reducible show wpAny _ _ (execs _ _) _ _ _); (fail_if_success (with_reducible show wpAny _ _ _ Qh _ _)); refine hideQ ?_; intro Qh hQh)); repeat' ((fail_if_success (with_reducible show wpAny _ _ (exec (PySem.Stmt.Assign _ (PySem.Expr.ListComp _ _ _ _) _) _) _ _ _)); (fail_if_success (with_reducible show wpAny _ _ (exec (PySem.Stmt.For _ _ _ _ _) _) _ _ _)); (fail_if_success (with_reducible show wpAny _ _ (eval (PySem.Expr.ListComp _ _ _ _) _) _ _ _)); (first | walk1 | (dsimp only; walk1) | (with_reducible apply Hid.use; with_reducible assumption))))
    refine Comp_ (by rfl) ?_
    ((try ((with_reducible show wpAny _ _ (execs _ _) _ _ _); (fail_if_success (with_reducible show wpAny _ _ _ Qh _ _)); refine hideQ ?_; intro Qh hQh)); repeat' ((fail_if_success (with_reducible show wpAny _ _ (exec (PySem.Stmt.Assign _ (PySem.Expr.ListComp _ _ _ _) _) _) _ _ _)); (fail_if_success (with_reducible show wpAny _ _ (exec (PySem.Stmt.For _ _ _ _ _) _) _ _ _)); (fail_if_success (with_reducible show wpAny _ _ (eval (PySem.Expr.ListComp _ _ _ _) _) _ _ _)); (first | walk1 | (dsimp only; walk1) | (with_reducible apply Hid.use; with_reducible assumption))))
    rename Fr _ _ _ _ => F4
    rename News _ _ _ _ => N4
    have hl4 := hl2.at fun o e => F4.keep _ o e
    have hK4 := News.get N4 (.tail _ (.tail _ (.head _)))
    have X4 := X2.keeps F4.keep
    have T4 := T2.keeps F4.keep
    refine comp_list (fun j zs news => news = [] ∧ IntsAre zs ((ms.take j).filter fun p => Builtin.bitAnd n p == p)) rfl hl4 (by rw [List.size_toArray, hi.length, sizeLine_eq]; omega) ⟨rfl, .nil⟩ ?_ ?_
    · rintro j v zs news I2 C2 D2 oI2 g2 tk2 E2 hv2 ⟨rfl, hzs⟩ F5 N5 ha2 hDI2
      obtain ⟨x, tx, rfl, hx⟩ := hi.at j v (by simpa using hv2)
      have hmem := List.mem_of_getElem? hx
      have hxb := hb _ hmem
      refine tests_one ?_
      ((try ((with_reducible show wpAny _ _ (execs _ _) _ _ _); (fail_if_success (with_reducible show wpAny _ _ _ Qh _ _)); refine hideQ ?_; intro Qh hQh)); repeat' ((fail_if_success (with_reducible show wpAny _ _ (exec (PySem.Stmt.Assign _ (PySem.Expr.ListComp _ _ _ _) _) _) _ _ _)); (fail_if_success (with_reducible show wpAny _ _ (exec (PySem.Stmt.For _ _ _ _ _) _) _ _ _)); (fail_if_success (with_reducible show wpAny _ _ (eval (PySem.Expr.ListComp _ _ _ _) _) _ _ _)); (first | walk1 | (dsimp only; walk1) | (with_reducible apply Hid.use; with_reducible assumption))))
      refine CTest.intro [] (by k_asm) (by k_asm) (fun p hp => hp) (fun _ hp => nomatch hp) ?_
      have htk : (ms.take (j + 1)).filter (fun p => Builtin.bitAnd n p == p) = (ms.take j).filter (fun p => Builtin.bitAnd n p == p) ++ (if (Builtin.bitAnd n x == x) = true then [x] else []) := by
        rw [List.take_add_one, hx, List.filter_append]
        congr 1
        show List.filter _ [x] = _
        rw [List.filter_cons]; rfl
      cases hp : (Builtin.bitAnd n x == x) with
      | false =>
        rw [hp] at htk
        simp only [Bool.false_eq_true, if_false, List.append_nil] at htk ⊢
        exact ⟨trivial, htk ▸ hzs⟩
      | true =>
        rw [hp] at htk
        simp only [if_true] at htk
        rw [if_pos rfl]
        intro oI3 h5 tk5 E5 F6 N6
        ((try ((with_reducible show wpAny _ _ (execs _ _) _ _ _); (fail_if_success (with_reducible show wpAny _ _ _ Qh _ _)); refine hideQ ?_; intro Qh hQh)); repeat' ((fail_if_success (with_reducible show wpAny _ _ (exec (PySem.Stmt.Assign _ (PySem.Expr.ListComp _ _ _ _) _) _) _ _ _)); (fail_if_success (with_reducible show wpAny _ _ (exec (PySem.Stmt.For _ _ _ _ _) _) _ _ _)); (fail_if_success (with_reducible show wpAny _ _ (eval (PySem.Expr.ListComp _ _ _ _) _) _ _ _)); (first | walk1 | (dsimp only; walk1) | (with_reducible apply Hid.use; with_reducible assumption))))
        refine CElt.intro [] (by k_asm) (by k_asm) (fun p hp => hp) (fun _ hp => nomatch hp) ⟨rfl, ?_⟩
        rw [htk]
        exact ints_snoc hzs
    · rintro D2 g2 tk2 zs news ⟨rfl, hzs⟩ k2 hN2 _
      obtain ⟨F5, N5, o5⟩ := added F4 N4 k2 hN2
      rw [List.size_toArray, hi.length, List.take_length] at hzs
      clear F4 N4
      ((try ((with_reducible show wpAny _ _ (execs _ _) _ _ _); (fail_if_success (with_reducible show wpAny _ _ _ Qh _ _)); refine hideQ ?_; intro Qh hQh)); repeat' ((fail_if_success (with_reducible show wpAny _ _ (exec (PySem.Stmt.Assign _ (PySem.Expr.ListComp _ _ _ _) _) _) _ _ _)); (fail_if_success (with_reducible show wpAny _ _ (exec (PySem.Stmt.For _ _ _ _ _) _) _ _ _)); (fail_if_success (with_reducible show wpAny _ _ (eval (PySem.Expr.ListComp _ _ _ _) _) _ _ _)); (first | walk1 | (dsimp only; walk1) | (with_reducible apply Hid.use; with_reducible assumption))))
      refine CTest.intro [(K, oK)] (by k_asm) (by k_asm) (fun p hp => by
        simp only [List.mem_cons, List.not_mem_nil, or_false] at hp
        rcases hp with rfl | rfl | rfl <;> k_mem) (fun p hp => by
        rcases List.mem_singleton.mp hp with rfl
        exact ⟨dKI, dKD⟩) ⟨?_, .head _⟩
      unfold haveP
      cases List.filter (fun p => Builtin.bitAnd n p == p) ms <;> rfl
  · intro D h3 tk3 ys hys k3 n3 e3
    (try (with_reducible apply Hid.use; with_reducible assumption)); (try dsimp only)
    try k_unfold
    (try (with_reducible apply Hid.use; with_reducible assumption)); (try dsimp only)
    exact h _ _ _ _ (fun b o q => k3 _ _ (F2.keep _ _ q)) (F2.noneBack n3) e3 hys

end
/-! C_follow -/
section
noncomputable def waysOf : List Int := sums3 [1, 8] [2, 16] [4, 32]
noncomputable def leftP (ms : List Int) (n : Int) : Bool := (ms.filter fun p => Builtin.bitAnd p n == 0) == []
noncomputable def leftOf (ms : List Int) : List Int := waysOf.filter (leftP ms)
noncomputable def followP (ls : List Int) (n : Int) : Bool := (ls.filter fun p => Builtin.bitAnd n p == 0) == []
noncomputable def followOf (ms : List Int) : List Int := allOf.filter (followP (leftOf ms))
theorem left_len (ms : List Int) : (leftOf ms).length ≤ 8 := Nat.le_trans (List.length_filter_le _ _) (by decide +kernel)
theorem c_follow {prog : Program} {w : World} {A : Around} {s : Shared} {R : Result → Shared → Prop} {p : Program} {loose : List Str} {mg mb : Str → Option Value}
    (h1 : A.handled = none) (h2 : A.depth ≤ 600) (h3 : A.units ≤ 300)
    (X : (hd.heap_1 w.params).In s.heap) (T : TopRead p loose mg mb s.heap) {l : Addr} {vs : List Value} {ms : List Int} (hl : s.heap.IsList l vs.toArray) (hi : IntsAre vs ms) (hlen : ms.length ≤ 100)
    (h : ∀ l h' tk vs, s.heap.StaysIn h' → s.heap.get? l = none → h'.get? l = some (W.listOf vs.toArray vs.length) → IntsAre vs (followOf ms) → R (.ok (.ret (.ref l))) { s with heap := h', toks := tk }) :
    codeAny (model prog w) A (.call (.ref 214) ⟨[.ref l], []⟩) R s := by
  refine code_weak (d := 600) (u := 300) (by assumption) (by assumption) (by assumption) ?_
  refine' enterC (by assumption) (TopRead.nolimit (by assumption)) (fun _ _ e => e) (Nat.le_refl _) (news := []) (fun _ hp => nomatch hp) ?ho ?hcd ?hroom ?hb ?hkind ?hnd ?_ ?e1 ?e2 ?e3
  (case ho => k_is); (case hcd => k_is); (case hroom => decide); (case hb => exact BindsTo.of_eq rfl); (case hkind => exact rfl); (case hnd => decide +kernel)
  (case e1 => exact rfl); (case e2 => exact rfl); (case e3 => exact rfl)
  intro L' h₁ tk' cells' F' N' Y' l1 hL'; (try k_lt l1); k_cells Y'; (try simp only [List.cons_append, List.nil_append] at N'); (try dsimp only); (show wpAny _ _ _ _ _ _); k_fold
  rename (_ = Data.cell (bindC _ _ _ (Str.ofString "drawn"))) => d1
  replace d1 : _ = Data.cell (some (Value.ref l)) := d1
  ((try ((with_reducible show wpAny _ _ (execs _ _) _ _ _); (fail_if_success (with_reducible show wpAny _ _ _ Qh _ _)); refine hideQ ?_; intro Qh hQh)); repeat' ((fail_if_success (with_reducible show wpAny _ _ (exec (PySem.Stmt.Assign _ (PySem.Expr.ListComp _ _ _ _) _) _) _ _ _)); (fail_if_success (with_reducible show wpAny _ _ (exec (PySem.Stmt.For _ _ _ _ _) _) _ _ _)); (fail_if_success (with_reducible show wpAny _ _ (eval (PySem.Expr.ListComp _ _ _ _) _) _ _ _)); (first | walk1 | (dsimp only; walk1) | (with_reducible apply Hid.use; with_reducible assumption))))
  rename Fr _ _ _ _ => F1
  rename News _ _ _ _ => N1
  refine AssignCompG (by rfl) ?_
  refine sums3_at [1, 8] [2, 16] [4, 32] rfl evTup2 evTup2 evTup2 (by decide) (by decide) (by decide) (fun _ _ => rfl) (fun _ _ => rfl) ?_
  intro D C h2 h1' tk2 ys m' f hyw k F N
  refine fin_assign (s₁ := { s with heap := h1', toks := tk2 }) (F1.keeps k) (N1.grown k) (by rfl) (by rfl) F N ?_
  intro h3 tk3 F2 N2
  clear F N k F1 N1
  ((try ((with_reducible show wpAny _ _ (execs _ _) _ _ _); (fail_if_success (with_reducible show wpAny _ _ _ Qh _ _)); refine hideQ ?_; intro Qh hQh)); repeat' ((fail_if_success (with_reducible show wpAny _ _ (exec (PySem.Stmt.Assign _ (PySem.Expr.ListComp _ _ _ _) _) _) _ _ _)); (fail_if_success (with_reducible show wpAny _ _ (exec (PySem.Stmt.For _ _ _ _ _) _) _ _ _)); (fail_if_success (with_reducible show wpAny _ _ (eval (PySem.Expr.ListComp _ _ _ _) _) _ _ _)); (first | walk1 | (dsimp only; walk1) | (with_reducible apply Hid.use; with_reducible assumption))))
  refine wpAny_Assign_Name ?_ (by with_unfolding_all rfl)
  refine Comp_ (by rfl) ?_
  ((try ((with_reducible show wpAny _ _ (execs _ _) _ _ _); (fail_if_success (with_reducible show wpAny _ _ _ Qh _ _)); refine hideQ ?_; intro Qh hQh)); repeat' ((fail_if_success (with_reducible show wpAny _ _ (exec (PySem.Stmt.Assign _ (PySem.Expr.ListComp _ _ _ _) _) _) _ _ _)); (fail_if_success (with_reducible show wpAny _ _ (exec (PySem.Stmt.For _ _ _ _ _) _) _ _ _)); (fail_if_success (with_reducible show wpAny _ _ (eval (PySem.Expr.ListComp _ _ _ _) _) _ _ _)); (first | walk1 | (dsimp only; walk1) | (with_reducible apply Hid.use; with_reducible assumption))))
  rename Fr _ _ _ _ => F1
  rename News _ _ _ _ => N1
  have X1 := X.keeps F1.keep
  have T1 := T.keeps F1.keep
  have hl1 := hl.at fun o e => F1.keep _ o e
  have hw1 := News.isList N1 (.head _)
  have hcA := News.get N1 (.tail _ (.head _))
  have hcB := News.get N1 (.tail _ (.tail _ (.head _)))
  refine filterC_ret (leftP ms) rfl hw1 hyw (by decide +kernel) ?_ ?_
  · intro n t ys I C K D oI oK h3 tk3 E' hn hoK F3 N3 dDI dKI dKD
    refine tests_one ?_
    ((try ((with_reducible show wpAny _ _ (execs _ _) _ _ _); (fail_if_success (with_reducible show wpAny _ _ _ Qh _ _)); refine hideQ ?_; intro Qh hQh)); repeat' ((fail_if_success (with_reducible show wpAny _ _ (exec (PySem.Stmt.Assign _ (PySem.Expr.ListComp _ _ _ _) _) _) _ _ _)); (fail_if_success (with_reducible show wpAny _ _ (exec (PySem.Stmt.For _ _ _ _ _) _) _ _ _)); (fail_if_success (with_reducible show wpAny _ _ (eval (PySem.Expr.ListComp _ _ _ _) _) _ _ _)); (first | walk1 | (dsimp only; walk1) | (with_reducible apply Hid.use; with_reducible assumption))))
    refine Comp_ (by rfl) ?_
    ((try ((with_reducible show wpAny _ _ (execs _ _) _ _ _); (fail_if_success (with_reducible show wpAny _ _ _ Qh _ _)); refine hideQ ?_; intro Qh hQh)); repeat' ((fail_if_success (with_reducible show wpAny _ _ (exec (PySem.Stmt.Assign _ (PySem.Expr.ListComp _ _ _ _) _) _) _ _ _)); (fail_if_success (with_reducible show wpAny _ _ (exec (PySem.Stmt.For _ _ _ _ _) _) _ _ _)); (fail_if_success (with_reducible show wpAny _ _ (eval (PySem.Expr.ListComp _ _ _ _) _) _ _ _)); (first | walk1 | (dsimp only; walk1) | (with_reducible apply Hid.use; with_reducible assumption))))
    rename Fr _ _ _ _ => F4
    rename News _ _ _ _ => N4
    have hl4 := hl1.at fun o e => F4.keep _ o e
    have hK4 := News.get N4 (.tail _ (.tail _ (.head _)))
    have X4 := X1.keeps F4.keep
    have T4 := T1.keeps F4.keep
    refine comp_list (fun j zs news => news = [] ∧ IntsAre zs ((ms.take j).filter fun p => Builtin.bitAnd p n == 0)) rfl hl4 (by rw [List.size_toArray, hi.length, sizeLine_eq]; exact Nat.le_trans hlen (by decide)) ⟨rfl, .nil⟩ ?_ ?_
    · rintro j v zs news I2 C2 D2 oI2 g2 tk2 E2 hv2 ⟨rfl, hzs⟩ F5 N5 ha2 hDI2
      obtain ⟨x, tx, rfl, hx⟩ := hi.at j v (by simpa using hv2)
      refine tests_one ?_
      ((try ((with_reducible show wpAny _ _ (execs _ _) _ _ _); (fail_if_success (with_reducible show wpAny _ _ _ Qh _ _)); refine hideQ ?_; intro Qh hQh)); repeat' ((fail_if_success (with_reducible show wpAny _ _ (exec (PySem.Stmt.Assign _ (PySem.Expr.ListComp _ _ _ _) _) _) _ _ _)); (fail_if_success (with_reducible show wpAny _ _ (exec (PySem.Stmt.For _ _ _ _ _) _) _ _ _)); (fail_if_success (with_reducible show wpAny _ _ (eval (PySem.Expr.ListComp _ _ _ _) _) _ _ _)); (first | walk1 | (dsimp only; walk1) | (with_reducible apply Hid.use; with_reducible assumption))))
      refine CTest.intro [] (by k_asm) (by k_asm) (fun p hp => hp) (fun _ hp => nomatch hp) ?_
      have htk : (ms.take (j + 1)).filter (fun p => Builtin.bitAnd p n == 0) = (ms.take j).filter (fun p => Builtin.bitAnd p n == 0) ++ (if (Builtin.bitAnd x n == 0) = true then [x] else []) := by
        rw [List.take_add_one, hx, List.filter_append]
        congr 1
        show List.filter _ [x] = _
        rw [List.filter_cons]; rfl
      cases hp : (Builtin.bitAnd x n == 0) with
      | false =>
        rw [hp] at htk
        simp only [Bool.false_eq_true, if_false, List.append_nil] at htk ⊢
        exact ⟨trivial, htk ▸ hzs⟩
      | true =>
        rw [hp] at htk
        simp only [if_true] at htk
        rw [if_pos rfl]
        intro oI3 h5 tk5 E5 F6 N6
        ((try ((with_reducible show wpAny _ _ (execs _ _) _ _ _); (fail_if_success (with_reducible show wpAny _ _ _ Qh _ _)); refine hideQ ?_; intro Qh hQh)); repeat' ((fail_if_success (with_reducible show wpAny _ _ (exec (PySem.Stmt.Assign _ (PySem.Expr.ListComp _ _ _ _) _) _) _ _ _)); (fail_if_success (with_reducible show wpAny _ _ (exec (PySem.Stmt.For _ _ _ _ _) _) _ _ _)); (fail_if_success (with_reducible show wpAny _ _ (eval (PySem.Expr.ListComp _ _ _ _) _) _ _ _)); (first | walk1 | (dsimp only; walk1) | (with_reducible apply Hid.use; with_reducible assumption))))
        refine CElt.intro [] (by k_asm) (by k_asm) (fun p hp => hp) (fun _ hp => nomatch hp) ⟨rfl, ?_⟩
        rw [htk]
        exact ints_snoc hzs
    · rintro D2 g2 tk2 zs news ⟨rfl, hzs⟩ k2 hN2 _
      obtain ⟨F5, N5, o5⟩ := added F4 N4 k2 hN2
      rw [List.size_toArray, hi.length, List.take_length] at hzs
      clear F4 N4
      ((try ((with_reducible show wpAny _ _ (execs _ _) _ _ _); (fail_if_success (with_reducible show wpAny _ _ _ Qh _ _)); refine hideQ ?_; intro Qh hQh)); repeat' ((fail_if_success (with_reducible show wpAny _ _ (exec (PySem.Stmt.Assign _ (PySem.Expr.ListComp _ _ _ _) _) _) _ _ _)); (fail_if_success (with_reducible show wpAny _ _ (exec (PySem.Stmt.For _ _ _ _ _) _) _ _ _)); (fail_if_success (with_reducible show wpAny _ _ (eval (PySem.Expr.ListComp _ _ _ _) _) _ _ _)); (first | walk1 | (dsimp only; walk1) | (with_reducible apply Hid.use; with_reducible assumption))))
      refine CTest.intro [(K, oK)] (by k_asm) (by k_asm) (fun p hp => by
        simp only [List.mem_cons, List.not_mem_nil, or_false] at hp
        rcases hp with rfl | rfl | rfl <;> k_mem) (fun p hp => by
        rcases List.mem_singleton.mp hp with rfl
        exact ⟨dKI, dKD⟩) ⟨?_, .head _⟩
      unfold leftP
      cases List.filter (fun p => Builtin.bitAnd p n == 0) ms <;> rfl
  · intro D3 h3 tk3 zl hleft k3 n3 e3
    obtain ⟨F2, N2⟩ := one_more F1 N1 k3 n3 e3
    clear F1 N1 hcA hcB X1 T1 hw1 hl1
    replace hleft : IntsAre zl (leftOf ms) := hleft
    (try (with_reducible apply Hid.use; with_reducible assumption)); (try dsimp only)
    ((try ((with_reducible show wpAny _ _ (execs _ _) _ _ _); (fail_if_success (with_reducible show wpAny _ _ _ Qh _ _)); refine hideQ ?_; intro Qh hQh)); repeat' ((fail_if_success (with_reducible show wpAny _ _ (exec (PySem.Stmt.Assign _ (PySem.Expr.ListComp _ _ _ _) _) _) _ _ _)); (fail_if_success (with_reducible show wpAny _ _ (exec (PySem.Stmt.For _ _ _ _ _) _) _ _ _)); (fail_if_success (with_reducible show wpAny _ _ (eval (PySem.Expr.ListComp _ _ _ _) _) _ _ _)); (fail_if_success (with_reducible show CElt _ _ _ _ _ _ _ _ _ _ _)); (fail_if_success (with_reducible show wpAny _ _ (call (Value.ref _) _ _) _ _ _)); (first | walk1 | (dsimp only; walk1) | (with_reducible apply Hid.use; with_reducible assumption))))
    refine Comp_ (by rfl) ?_
    ((try ((with_reducible show wpAny _ _ (execs _ _) _ _ _); (fail_if_success (with_reducible show wpAny _ _ _ Qh _ _)); refine hideQ ?_; intro Qh hQh)); repeat' ((fail_if_success (with_reducible show wpAny _ _ (exec (PySem.Stmt.Assign _ (PySem.Expr.ListComp _ _ _ _) _) _) _ _ _)); (fail_if_success (with_reducible show wpAny _ _ (exec (PySem.Stmt.For _ _ _ _ _) _) _ _ _)); (fail_if_success (with_reducible show wpAny _ _ (eval (PySem.Expr.ListComp _ _ _ _) _) _ _ _)); (fail_if_success (with_reducible show CElt _ _ _ _ _ _ _ _ _ _ _)); (fail_if_success (with_reducible show wpAny _ _ (call (Value.ref _) _ _) _ _ _)); (first | walk1 | (dsimp only; walk1) | (with_reducible apply Hid.use; with_reducible assumption))))
    rename Fr _ _ _ _ => F1
    rename News _ _ _ _ => N1
    refine wpAny_call (c_all rfl (Nat.le_of_ble_eq_true rfl) (Nat.le_of_ble_eq_true rfl) (X.keeps F1.keep) (T.keeps F1.keep) ?_)
    intro la h5 tk5 va k e0 e1 hia
    have F5 := F1.keeps k
    have N5 := N1.grown k
    clear F1 N1
    (try (with_reducible apply Hid.use; with_reducible assumption)); (try dsimp only)
    have hla : h5.IsList la va.toArray := ⟨_, e1, rfl, _, rfl⟩
    have X5 := X.keeps F5.keep
    have T5 := T.keeps F5.keep
    have hz5 : h5.IsList D3 zl.toArray := News.isList N5 (by k_mem)
    have hcA := News.get N5 (by k_mem : (L' + 1, _) ∈ _)
    have hcB := News.get N5 (by k_mem : (L' + 1 + 1, _) ∈ _)
    refine filterC_ret (followP (leftOf ms)) rfl hla hia (by decide +kernel) ?_ ?_
    · intro n t ys I C K D oI oK h3 tk3 E' hn hoK F3 N3 dDI dKI dKD
      refine tests_one ?_
      ((try ((with_reducible show wpAny _ _ (execs _ _) _ _ _); (fail_if_success (with_reducible show wpAny _ _ _ Qh _ _)); refine hideQ ?_; intro Qh hQh)); repeat' ((fail_if_success (with_reducible show wpAny _ _ (exec (PySem.Stmt.Assign _ (PySem.Expr.ListComp _ _ _ _) _) _) _ _ _)); (fail_if_success (with_reducible show wpAny _ _ (exec (PySem.Stmt.For _ _ _ _ _) _) _ _ _)); (fail_if_success (with_reducible show wpAny _ _ (eval (PySem.Expr.ListComp _ _ _ _) _) _ _ _)); (first | walk1 | (dsimp only; walk1) | (with_reducible apply Hid.use; with_reducible assumption))))
      refine Comp_ (by rfl) ?_
      ((try ((with_reducible show wpAny _ _ (execs _ _) _ _ _); (fail_if_success (with_reducible show wpAny _ _ _ Qh _ _)); refine hideQ ?_; intro Qh hQh)); repeat' ((fail_if_success (with_reducible show wpAny _ _ (exec (PySem.Stmt.Assign _ (PySem.Expr.ListComp _ _ _ _) _) _) _ _ _)); (fail_if_success (with_reducible show wpAny _ _ (exec (PySem.Stmt.For _ _ _ _ _) _) _ _ _)); (fail_if_success (with_reducible show wpAny _ _ (eval (PySem.Expr.ListComp _ _ _ _) _) _ _ _)); (first | walk1 | (dsimp only; walk1) | (with_reducible apply Hid.use; with_reducible assumption))))
      rename Fr _ _ _ _ => F4
      rename News _ _ _ _ => N4
      have hl4 := hz5.at fun o e => F4.keep _ o e
      have hK4 := News.get N4 (.tail _ (.tail _ (.head _)))
      have X4 := X5.keeps F4.keep
      have T4 := T5.keeps F4.keep
      refine comp_list (fun j zs news => news = [] ∧ IntsAre zs (((leftOf ms).take j).filter fun p => Builtin.bitAnd n p == 0)) rfl hl4 (by rw [List.size_toArray, hleft.length, sizeLine_eq]; exact Nat.le_trans (left_len ms) (by decide)) ⟨rfl, .nil⟩ ?_ ?_
      · rintro j v zs news I2 C2 D2 oI2 g2 tk2 E2 hv2 ⟨rfl, hzs⟩ F5 N5 ha2 hDI2
        obtain ⟨x, tx, rfl, hx⟩ := hleft.at j v (by simpa using hv2)
        refine tests_one ?_
        ((try ((with_reducible show wpAny _ _ (execs _ _) _ _ _); (fail_if_success (with_reducible show wpAny _ _ _ Qh _ _)); refine hideQ ?_; intro Qh hQh)); repeat' ((fail_if_success (with_reducible show wpAny _ _ (exec (PySem.Stmt.Assign _ (PySem.Expr.ListComp _ _ _ _) _) _) _ _ _)); (fail_if_success (with_reducible show wpAny _ _ (exec (PySem.Stmt.For _ _ _ _ _) _) _ _ _)); (fail_if_success (with_reducible show wpAny _ _ (eval (PySem.Expr.ListComp _ _ _ _) _) _ _ _)); (first | walk1 | (dsimp only; walk1) | (with_reducible apply Hid.use; with_reducible assumption))))
        refine CTest.intro [] (by k_asm) (by k_asm) (fun p hp => hp) (fun _ hp => nomatch hp) ?_
        have htk : ((leftOf ms).take (j + 1)).filter (fun p => Builtin.bitAnd n p == 0) = ((leftOf ms).take j).filter (fun p => Builtin.bitAnd n p == 0) ++ (if (Builtin.bitAnd n x == 0) = true then [x] else []) := by
          rw [List.take_add_one, hx, List.filter_append]
          congr 1
          show List.filter _ [x] = _
          rw [List.filter_cons]; rfl
        cases hp : (Builtin.bitAnd n x == 0) with
        | false =>
          rw [hp] at htk
          simp only [Bool.false_eq_true, if_false, List.append_nil] at htk ⊢
          exact ⟨trivial, htk ▸ hzs⟩
        | true =>
          rw [hp] at htk
          simp only [if_true] at htk
          rw [if_pos rfl]
          intro oI3 h5 tk5 E5 F6 N6
          ((try ((with_reducible show wpAny _ _ (execs _ _) _ _ _); (fail_if_success (with_reducible show wpAny _ _ _ Qh _ _)); refine hideQ ?_; intro Qh hQh)); repeat' ((fail_if_success (with_reducible show wpAny _ _ (exec (PySem.Stmt.Assign _ (PySem.Expr.ListComp _ _ _ _) _) _) _ _ _)); (fail_if_success (with_reducible show wpAny _ _ (exec (PySem.Stmt.For _ _ _ _ _) _) _ _ _)); (fail_if_success (with_reducible show wpAny _ _ (eval (PySem.Expr.ListComp _ _ _ _) _) _ _ _)); (first | walk1 | (dsimp only; walk1) | (with_reducible apply Hid.use; with_reducible assumption))))
          refine CElt.intro [] (by k_asm) (by k_asm) (fun p hp => hp) (fun _ hp => nomatch hp) ⟨rfl, ?_⟩
          rw [htk]
          exact ints_snoc hzs
      · rintro D2 g2 tk2 zs news ⟨rfl, hzs⟩ k2 hN2 _
        obtain ⟨F5, N5, o5⟩ := added F4 N4 k2 hN2
        rw [List.size_toArray, hleft.length, List.take_length] at hzs
        clear F4 N4
        ((try ((with_reducible show wpAny _ _ (execs _ _) _ _ _); (fail_if_success (with_reducible show wpAny _ _ _ Qh _ _)); refine hideQ ?_; intro Qh hQh)); repeat' ((fail_if_success (with_reducible show wpAny _ _ (exec (PySem.Stmt.Assign _ (PySem.Expr.ListComp _ _ _ _) _) _) _ _ _)); (fail_if_success (with_reducible show wpAny _ _ (exec (PySem.Stmt.For _ _ _ _ _) _) _ _ _)); (fail_if_success (with_reducible show wpAny _ _ (eval (PySem.Expr.ListComp _ _ _ _) _) _ _ _)); (first | walk1 | (dsimp only; walk1) | (with_reducible apply Hid.use; with_reducible assumption))))
        refine CTest.intro [(K, oK)] (by k_asm) (by k_asm) (fun p hp => by
          simp only [List.mem_cons, List.not_mem_nil, or_false] at hp
          rcases hp with rfl | rfl | rfl <;> k_mem) (fun p hp => by
          rcases List.mem_singleton.mp hp with rfl
          exact ⟨dKI, dKD⟩) ⟨?_, .head _⟩
        unfold followP
        cases List.filter (fun p => Builtin.bitAnd n p == 0) (leftOf ms) <;> rfl
    · intro D h3 tk3 ys hys k3 n3 e3
      (try (with_reducible apply Hid.use; with_reducible assumption)); (try dsimp only)
      try k_unfold
      (try (with_reducible apply Hid.use; with_reducible assumption)); (try dsimp only)
      exact h _ _ _ _ (fun b o q => k3 _ _ (F5.keep _ _ q)) (F5.noneBack n3) e3 hys

end
/-! C_parse -/
section
section
variable {prog : Program} {w : World} {A : Around} {E : Value → Shared → Prop} {s : Shared}
theorem find_known {x y : Str} {t u : Tok} {k : Int} {Q : Value → Shared → Prop} (e : Txt.find x y = k) (h : ∀ t, Q (.int k t) { s with toks := s.toks + 1 }) : wpAny (model prog w) A (call (.builtin "str.find") [.str x t, .str y u]) Q E s :=
  SC.find (by rw [e]; exact h _)
theorem find3_known {x y : Str} {t u v : Tok} {i k : Int} {Q : Value → Shared → Prop} (e : Txt.find3 x y i = k) (h : ∀ t, Q (.int k t) { s with toks := s.toks + 1 }) : wpAny (model prog w) A (call (.builtin "str.find") [.str x t, .str y u, .int i v]) Q E s :=
  SC.find3 (by rw [e]; exact h _)
theorem ne_known {x y : Str} {t u : Tok} {b : Bool} {Q : Value → Shared → Prop} (e : (x != y) = b) (h : Q (.bool b) s) : wpAny (model prog w) A (compareOp .NotEq (.str x t) (.str y u)) Q E s :=
  PyProof.Rows.ne_str (by rw [e]; exact h)
theorem tail_known {value slice : PySem.Expr} {x : Str} {t u : Tok} {i : Nat} {c : Nat} {k : Int} {Q : Value → Shared → Prop} (hk : k = ((i : Nat) : Int)) (hc : x.cps[i]? = some c) (hn : x.length ≤ 100) (h : ∀ t, Q (.str ⟨#[c]⟩ t) { s with toks := s.toks + 1 })
    (hs : subscripted slice false (.str x t) (.int (i : Int) u) = operate [.str x t, .int (i : Int) u] (getItem (.str x t) (.int (i : Int) u)))
    (ht : ∀ r, letTemporaryGo value (.str x t) r = pure ()) : wpAny (model prog w) A (subscriptTail value slice (.str x t) (.int k u)) Q E s := by
  subst hk
  exact tail_char hc (Nat.le_trans hn (by decide)) (h _) hs ht
end
structure Reply (x : Str) (v : Int) (n m : Nat) (wd : Str) (p0 p1 p2 p3 p4 : Str) : Prop where
  len : x.length ≤ 100
  a1 : (Txt.slice x none (some 3) != Str.ofString "229") = false
  a2 : Txt.find x (Str.ofString "(") = 7
  a3 : Txt.find3 x (Str.ofString ")") (7 + 1) = ((n + 8 : Nat) : Int)
  a4 : x.cps[8]? = some m
  a5 : x.cps[n + 7]? = some m
  a6 : Txt.slice x (some (7 + 1)) (some ((n + 8 : Nat) : Int)) = wd
  a7 : Txt.split wd ⟨#[m]⟩ = [p0, p1, p2, p3, p4]
  a8 : PySem.intText? p3 = some v
  a9 : p3.length ≤ 100
theorem five_of {l : List (Str × Tok)} {p0 p1 p2 p3 p4 : Str} (e : l.map (·.1) = [p0, p1, p2, p3, p4]) : ∃ t0 t1 t2 t3 t4, l = [(p0, t0), (p1, t1), (p2, t2), (p3, t3), (p4, t4)] := by
  obtain ⟨⟨_, t0⟩, l1, rfl, rfl, e1⟩ := List.map_eq_cons_iff.mp e
  obtain ⟨⟨_, t1⟩, l2, rfl, rfl, e2⟩ := List.map_eq_cons_iff.mp e1
  obtain ⟨⟨_, t2⟩, l3, rfl, rfl, e3⟩ := List.map_eq_cons_iff.mp e2
  obtain ⟨⟨_, t3⟩, l4, rfl, rfl, e4⟩ := List.map_eq_cons_iff.mp e3
  obtain ⟨⟨_, t4⟩, l5, rfl, rfl, e5⟩ := List.map_eq_cons_iff.mp e4
  obtain rfl := List.map_eq_nil_iff.mp e5
  exact ⟨_, _, _, _, _, rfl⟩
local macro_rules | `(tactic| walk_at "call builtin:str.find") => `(tactic| (k_dflt (first | refine find_known (by assumption) ?_ | refine find3_known (by assumption) ?_); intro _))
local macro_rules | `(tactic| walk_at "compareOp NotEq str str") => `(tactic| ((with_reducible show wpAny _ _ (compareOp PySem.CmpOp.NotEq (Value.str _ _) (Value.str _ _)) _ _ _); k_dflt (refine ne_known (b := false) (by assumption) ?_)))
local macro_rules | `(tactic| walk_at "subscriptTail") => `(tactic| ((with_reducible show wpAny _ _ (subscriptTail _ _ (Value.str _ _) (Value.int _ _)) _ _ _); k_dflt (refine' tail_known ?k ?c ?n ?_ ?s ?t; (case k => assumption); (case c => assumption); (case n => assumption); (case s => with_unfolding_all rfl); (case t => (intro _; with_unfolding_all rfl)); k_whole); intro _))
theorem c_parse {prog : Program} {w : World} {A : Around} {s : Shared} {R : Result → Shared → Prop} {p : Program} {loose : List Str} {mg mb : Str → Option Value}
    (h1 : A.handled = none) (h2 : A.depth ≤ 700) (h3 : A.units ≤ 400)
    (X : (hd.heap_1 w.params).In s.heap) (T : TopRead p loose mg mb s.heap) {pr : Addr} {place v : Int} {tp t21 tr : Tok} {x : Str} {n m : Nat} {wd p0 p1 p2 p3 p4 : Str} (hpr : s.heap.IsTuple pr #[.int place tp, .int 21 t21]) (hx : Reply x v n m wd p0 p1 p2 p3 p4)
    (h : ∀ l h' tk t1 t2, s.heap.StaysIn h' → s.heap.get? l = none → h'.get? l = some { cls := .type "tuple", data := .seq #[.int place t1, .int v t2] } → R (.ok (.ret (.ref l))) { s with heap := h', toks := tk }) :
    codeAny (model prog w) A (.call (.ref 65) ⟨[.str x tr, .ref pr], []⟩) R s := by
  obtain ⟨len, a1, a2, a3, a4, a5, a6, a7, a8, a9⟩ := hx
  have e1 : (7 + 1 : Int) = ((8 : Nat) : Int) := rfl
  have e2 : (((n + 8 : Nat) : Int) - 1) = ((n + 7 : Nat) : Int) := by omega
  have e3 : ((⟨#[m]⟩ : Str) != ⟨#[m]⟩) = false := bne_self_eq_false ..
  refine code_weak (d := 700) (u := 400) (by assumption) (by assumption) (by assumption) ?_
  refine' enter (by assumption) (TopRead.nolimit (by assumption)) (fun _ _ e => e) (Nat.le_refl _) (news := []) (fun _ hp => nomatch hp) ?ho ?hcd ?hroom ?hb ?hloc ?_ ?e1 ?e2 ?e3 ?e4
  (case ho => k_is); (case hcd => k_is); (case hroom => decide); (case hb => exact BindsTo.of_eq rfl); (case hloc => exact locs rfl)
  (case e1 => exact rfl); (case e2 => exact rfl); (case e3 => exact rfl); (case e4 => decide)
  intro L' h₁ F' N' hL'; (try dsimp only); (show wpAny _ _ _ _ _ _); k_fold
  replace F' : Fr s.heap L' h₁ (fun y => List.lookup y [(Str.ofString "peer", Value.ref pr), (Str.ofString "resp", Value.str x tr)]) := F'
  repeat' ((fail_if_success (with_reducible show wpAny _ _ (exec (PySem.Stmt.Assign _ (PySem.Expr.ListComp _ _ _ _) _) _) _ _ _)); (fail_if_success (with_reducible show wpAny _ _ (exec (PySem.Stmt.For _ _ _ _ _) _) _ _ _)); (fail_if_success (with_reducible show wpAny _ _ (eval (PySem.Expr.ListComp _ _ _ _) _) _ _ _)); (fail_if_success (with_reducible show wpAny _ _ (call (Value.builtin "str.split") _ _) _ _ _)); (first | walk1 | (dsimp only; walk1)))
  rename (Txt.slice x (some (7 + 1)) _).length ≤ _ => hsl
  rw [a6] at hsl ⊢
  rename Fr _ _ _ _ => F1
  rename News _ _ _ _ => N1
  refine splitN1 (hsz := by rw [sizeLine_eq]; omega) F1 N1 (by rfl) ?_
  intro l h2 k2 e F2 N2
  rw [a7] at e
  obtain ⟨t0, t1, t2, t3, t4, rfl⟩ := five_of e
  replace N2 : News s.heap L' h2 [(_, W.listOf [Value.str p0 t0, Value.str p1 t1, Value.str p2 t2, Value.str p3 t3, Value.str p4 t4].toArray 0)] := N2
  clear F1 N1
  (try (with_reducible apply Hid.use; with_reducible assumption)); (try dsimp only)
  repeat' ((fail_if_success (with_reducible show wpAny _ _ (exec (PySem.Stmt.Assign _ (PySem.Expr.ListComp _ _ _ _) _) _) _ _ _)); (fail_if_success (with_reducible show wpAny _ _ (exec (PySem.Stmt.For _ _ _ _ _) _) _ _ _)); (fail_if_success (with_reducible show wpAny _ _ (eval (PySem.Expr.ListComp _ _ _ _) _) _ _ _)); (fail_if_success (with_reducible show wpAny _ _ (call (Value.type "int") _ _) _ _ _)); (first | walk1 | (dsimp only; walk1)))
  refine KIN.call_text a8 (by omega) ?_
  ((try ((with_reducible show wpAny _ _ (execs _ _) _ _ _); (fail_if_success (with_reducible show wpAny _ _ _ Qh _ _)); refine hideQ ?_; intro Qh hQh)); repeat' ((fail_if_success (with_reducible show wpAny _ _ (exec (PySem.Stmt.Assign _ (PySem.Expr.ListComp _ _ _ _) _) _) _ _ _)); (fail_if_success (with_reducible show wpAny _ _ (exec (PySem.Stmt.For _ _ _ _ _) _) _ _ _)); (fail_if_success (with_reducible show wpAny _ _ (eval (PySem.Expr.ListComp _ _ _ _) _) _ _ _)); (first | walk1 | (dsimp only; walk1) | (with_reducible apply Hid.use; with_reducible assumption))))
  (try (with_reducible apply Hid.use; with_reducible assumption)); (try dsimp only)
  try k_unfold
  (try (with_reducible apply Hid.use; with_reducible assumption)); (try dsimp only)
  rename Fr _ _ _ _ => F1
  rename News _ _ _ _ => N1
  have z := N1 _ (.head _)
  exact h _ _ _ _ _ F1.keep z.2.2 z.1

end
/-! C_reply -/
section
noncomputable def respOf (u : Str) : Str := (Str.ofString "229 1) (" ++ u) ++ Str.ofString ") (|||21|)"
noncomputable def wordAt (i j k v : Int) : Str := (((((Txt.item marks i ++ Txt.mul (Str.ofString "6") j) ++ Txt.item marks i) ++ Txt.mul (Str.ofString "1") k) ++ Txt.item marks i) ++ shown v) ++ Txt.item marks i
noncomputable def chk (u : Str) (v : Int) : Bool :=
  let x := respOf u
  let n := u.length
  decide (x.length ≤ 100) && !(Txt.slice x none (some 3) != Str.ofString "229") && (Txt.find x (Str.ofString "(") == 7) && (Txt.find3 x (Str.ofString ")") (7 + 1) == ((n + 8 : Nat) : Int)) &&
  match x.cps[8]? with
  | none => false
  | some m => (x.cps[n + 7]? == some m) && (match Txt.split (Txt.slice x (some (7 + 1)) (some ((n + 8 : Nat) : Int))) ⟨#[m]⟩ with
    | [_, _, _, p3, _] => (PySem.intText? p3 == some v) && decide (p3.length ≤ 100)
    | _ => false)
theorem chk_reply {u : Str} {v : Int} (h : chk u v = true) : ∃ n m wd p0 p1 p2 p3 p4, Reply (respOf u) v n m wd p0 p1 p2 p3 p4 := by
  unfold chk at h
  simp only [Bool.and_eq_true, decide_eq_true_eq, Bool.not_eq_true', beq_iff_eq] at h
  obtain ⟨⟨⟨⟨h1, h2⟩, h3⟩, h4⟩, h5⟩ := h
  split at h5
  · cases h5
  · rename_i m hm
    simp only [Bool.and_eq_true, beq_iff_eq] at h5
    obtain ⟨h6, h7⟩ := h5
    split at h7
    · rename_i p0 p1 p2 p3 p4 hs
      simp only [Bool.and_eq_true, decide_eq_true_eq, beq_iff_eq] at h7
      exact ⟨u.length, m, _, p0, p1, p2, p3, p4, h1, h2, h3, h4, hm, h6, rfl, hs, h7.1, h7.2⟩
    · cases h7
theorem chk_all : ∀ i ∈ ([0, 1, 2, 3, 4] : List Int), ∀ j ∈ ([0, 1, 2] : List Int), ∀ k ∈ ([0, 1] : List Int), ∀ v ∈ ([0, 253, 254, 255, 256, 257, 258] : List Int), chk (wordAt i j k v) v = true := by decide +kernel
theorem word_reply {v : Int} {u : Str} (hv : Port v) (h : WordFor v u) : ∃ n m wd p0 p1 p2 p3 p4, Reply (respOf u) v n m wd p0 p1 p2 p3 p4 := by
  obtain ⟨i, j, k, hi0, hi1, hj0, hj1, hk0, hk1, rfl⟩ := h
  refine chk_reply (chk_all i ?_ j ?_ k ?_ v ?_)
  · have : i = 0 ∨ i = 1 ∨ i = 2 ∨ i = 3 ∨ i = 4 := by omega
    simpa using this
  · have : j = 0 ∨ j = 1 ∨ j = 2 := by omega
    simpa using this
  · have : k = 0 ∨ k = 1 := by omega
    simpa using this
  · have : v = 0 ∨ v = 253 ∨ v = 254 ∨ v = 255 ∨ v = 256 ∨ v = 257 ∨ v = 258 := by unfold Port at hv; omega
    simpa using this

end
/-! C_tok -/
section
theorem c_term {prog : Program} {w : World} {A : Around} {s : Shared} {R : Result → Shared → Prop} {p : Program} {loose : List Str} {mg mb : Str → Option Value}
    (h1 : A.handled = none) (h2 : A.depth ≤ 700) (h3 : A.units ≤ 400)
    (X : (hd.heap_1 w.params).In s.heap) (T : TopRead p loose mg mb s.heap) {v : Int} {tv : Tok} (h : ∀ h' tk, s.heap.StaysIn h' → R (.ok (.ret (.bool (decide (v < 256))))) { s with heap := h', toks := tk }) :
    codeAny (model prog w) A (.call (.ref 114) ⟨[.int v tv], []⟩) R s := by
  refine code_weak (d := 700) (u := 400) (by assumption) (by assumption) (by assumption) ?_
  refine' enter (by assumption) (TopRead.nolimit (by assumption)) (fun _ _ e => e) (Nat.le_refl _) (news := []) (fun _ hp => nomatch hp) ?ho ?hcd ?hroom ?hb ?hloc ?_ ?e1 ?e2 ?e3 ?e4
  (case ho => k_is); (case hcd => k_is); (case hroom => decide); (case hb => exact BindsTo.of_eq rfl); (case hloc => exact locs rfl)
  (case e1 => exact rfl); (case e2 => exact rfl); (case e3 => exact rfl); (case e4 => decide)
  intro L' h₁ F' N' hL'; (try dsimp only); (show wpAny _ _ _ _ _ _); k_fold
  ((try ((with_reducible show wpAny _ _ (execs _ _) _ _ _); (fail_if_success (with_reducible show wpAny _ _ _ Qh _ _)); refine hideQ ?_; intro Qh hQh)); repeat' ((fail_if_success (with_reducible show wpAny _ _ (exec (PySem.Stmt.Assign _ (PySem.Expr.ListComp _ _ _ _) _) _) _ _ _)); (fail_if_success (with_reducible show wpAny _ _ (exec (PySem.Stmt.For _ _ _ _ _) _) _ _ _)); (fail_if_success (with_reducible show wpAny _ _ (eval (PySem.Expr.ListComp _ _ _ _) _) _ _ _)); (first | walk1 | (dsimp only; walk1) | (with_reducible apply Hid.use; with_reducible assumption))))
  (try (with_reducible apply Hid.use; with_reducible assumption)); (try dsimp only)
  try k_unfold
  (try (with_reducible apply Hid.use; with_reducible assumption)); (try dsimp only)
  rename Fr _ _ _ _ => F1
  exact h _ _ F1.keep
theorem c_nonterm {prog : Program} {w : World} {A : Around} {s : Shared} {R : Result → Shared → Prop} {p : Program} {loose : List Str} {mg mb : Str → Option Value}
    (h1 : A.handled = none) (h2 : A.depth ≤ 700) (h3 : A.units ≤ 400)
    (X : (hd.heap_1 w.params).In s.heap) (T : TopRead p loose mg mb s.heap) {v : Int} {tv : Tok} (h : ∀ h' tk, s.heap.StaysIn h' → R (.ok (.ret (.bool (decide (v ≥ 256))))) { s with heap := h', toks := tk }) :
    codeAny (model prog w) A (.call (.ref 121) ⟨[.int v tv], []⟩) R s := by
  refine code_weak (d := 700) (u := 400) (by assumption) (by assumption) (by assumption) ?_
  refine' enter (by assumption) (TopRead.nolimit (by assumption)) (fun _ _ e => e) (Nat.le_refl _) (news := []) (fun _ hp => nomatch hp) ?ho ?hcd ?hroom ?hb ?hloc ?_ ?e1 ?e2 ?e3 ?e4
  (case ho => k_is); (case hcd => k_is); (case hroom => decide); (case hb => exact BindsTo.of_eq rfl); (case hloc => exact locs rfl)
  (case e1 => exact rfl); (case e2 => exact rfl); (case e3 => exact rfl); (case e4 => decide)
  intro L' h₁ F' N' hL'; (try dsimp only); (show wpAny _ _ _ _ _ _); k_fold
  ((try ((with_reducible show wpAny _ _ (execs _ _) _ _ _); (fail_if_success (with_reducible show wpAny _ _ _ Qh _ _)); refine hideQ ?_; intro Qh hQh)); repeat' ((fail_if_success (with_reducible show wpAny _ _ (exec (PySem.Stmt.Assign _ (PySem.Expr.ListComp _ _ _ _) _) _) _ _ _)); (fail_if_success (with_reducible show wpAny _ _ (exec (PySem.Stmt.For _ _ _ _ _) _) _ _ _)); (fail_if_success (with_reducible show wpAny _ _ (eval (PySem.Expr.ListComp _ _ _ _) _) _ _ _)); (first | walk1 | (dsimp only; walk1) | (with_reducible apply Hid.use; with_reducible assumption))))
  (try (with_reducible apply Hid.use; with_reducible assumption)); (try dsimp only)
  try k_unfold
  (try (with_reducible apply Hid.use; with_reducible assumption)); (try dsimp only)
  rename Fr _ _ _ _ => F1
  exact h _ _ F1.keep
theorem c_iseof {prog : Program} {w : World} {A : Around} {s : Shared} {R : Result → Shared → Prop} {p : Program} {loose : List Str} {mg mb : Str → Option Value}
    (h1 : A.handled = none) (h2 : A.depth ≤ 700) (h3 : A.units ≤ 400)
    (X : (hd.heap_1 w.params).In s.heap) (T : TopRead p loose mg mb s.heap) {v : Int} {tv : Tok} (h : ∀ h' tk, s.heap.StaysIn h' → R (.ok (.ret (.bool (decide (v = 0))))) { s with heap := h', toks := tk }) :
    codeAny (model prog w) A (.call (.ref 128) ⟨[.int v tv], []⟩) R s := by
  refine code_weak (d := 700) (u := 400) (by assumption) (by assumption) (by assumption) ?_
  refine' enter (by assumption) (TopRead.nolimit (by assumption)) (fun _ _ e => e) (Nat.le_refl _) (news := []) (fun _ hp => nomatch hp) ?ho ?hcd ?hroom ?hb ?hloc ?_ ?e1 ?e2 ?e3 ?e4
  (case ho => k_is); (case hcd => k_is); (case hroom => decide); (case hb => exact BindsTo.of_eq rfl); (case hloc => exact locs rfl)
  (case e1 => exact rfl); (case e2 => exact rfl); (case e3 => exact rfl); (case e4 => decide)
  intro L' h₁ F' N' hL'; (try dsimp only); (show wpAny _ _ _ _ _ _); k_fold
  ((try ((with_reducible show wpAny _ _ (execs _ _) _ _ _); (fail_if_success (with_reducible show wpAny _ _ _ Qh _ _)); refine hideQ ?_; intro Qh hQh)); repeat' ((fail_if_success (with_reducible show wpAny _ _ (exec (PySem.Stmt.Assign _ (PySem.Expr.ListComp _ _ _ _) _) _) _ _ _)); (fail_if_success (with_reducible show wpAny _ _ (exec (PySem.Stmt.For _ _ _ _ _) _) _ _ _)); (fail_if_success (with_reducible show wpAny _ _ (eval (PySem.Expr.ListComp _ _ _ _) _) _ _ _)); (first | walk1 | (dsimp only; walk1) | (with_reducible apply Hid.use; with_reducible assumption))))
  (try (with_reducible apply Hid.use; with_reducible assumption)); (try dsimp only)
  try k_unfold
  (try (with_reducible apply Hid.use; with_reducible assumption)); (try dsimp only)
  rename Fr _ _ _ _ => F1
  exact h _ _ F1.keep
end
/-! C_ports -/
section
section
variable {prog : Program} {w : World} {A : Around} {s : Shared} {g : Heap} {L : Addr} {m : Str → Option Value} {rest : List (Addr × Obj)} {p : Program} {loose : List Str} {mg mb : Str → Option Value}
noncomputable def Lx.MP (a : Lx) (w : World) (i : Nat) (tl ti : Tok) (vs : List Value) (n : Nat) : List (Addr × Obj) := a.M w i tl ti ++ [(a.pb, W.listOf vs.toArray n)]
theorem Lx.MP_keys {a : Lx} {i j n n' : Nat} {tl ti tl' ti' : Tok} {vs vs' : List Value} : (a.MP w i tl ti vs n).map (·.1) = (a.MP w j tl' ti' vs' n').map (·.1) := by unfold Lx.MP; rw [List.map_append, List.map_append]; rfl
theorem backMP {a : Lx} {i j n n' : Nat} {tl ti tl' ti' : Tok} {vs vs' : List Value} {h h' : Heap} (F : Fr g L h m) (N : News g L h (a.MP w i tl ti vs n ++ rest)) (hr : ∀ p ∈ rest, p.1 ∉ (a.MP w 0 0 0 [] 0).map (·.1))
    (st : (hidden h (a.MP w i tl ti vs n)).StaysIn h') (e : ∀ p ∈ a.MP w j tl' ti' vs' n', h'.get? p.1 = some p.2) : Fr g L h' m ∧ News g L h' (a.MP w j tl' ti' vs' n' ++ rest) :=
  back (a.MP w i tl ti vs n) (a.MP w j tl' ti' vs' n') [] F N (fun p hp => List.mem_append_left _ hp) st e
    (fun p hp => by
      have : p.1 ∈ (a.MP w i tl ti vs n).map (·.1) := by rw [Lx.MP_keys (j := j) (tl' := tl') (ti' := ti') (vs' := vs') (n' := n')]; exact List.mem_map.mpr ⟨p, hp, rfl⟩
      obtain ⟨q, hq, e⟩ := List.mem_map.mp this
      exact ⟨q.2, by rw [← e]; exact hq⟩)
    (fun p hp => nomatch hp) _ (fun p hp => by
      rcases List.mem_append.mp hp with hp | hp
      · exact .inl hp
      · exact .inr (.inr ⟨List.mem_append_right _ hp, fun q => hr p hp (by rw [Lx.MP_keys (j := i) (tl' := tl) (ti' := ti) (vs' := vs) (n' := n)]; exact q)⟩))
theorem get_call {a : Lx} {i n : Nat} {tl ti : Tok} {l tok rst : List Nat} {R : Result → Shared → Prop} (ok : a.Ok w) (okp : a.pb ∉ (a.M w 0 0 0).map (·.1)) (hR : Rem a.tx i l) (hL : Lexed l tok rst) (h1 : A.handled = none) (h2 : A.depth ≤ 600) (h3 : A.units ≤ 300) (X : (hd.heap_1 w.params).In g) (T : TopRead p loose mg mb g)
    (F : Fr g L s.heap m) (N : News g L s.heap (a.MP w i tl ti [] n ++ rest)) (hr : ∀ p ∈ rest, p.1 ∉ (a.MP w 0 0 0 [] 0).map (·.1))
    (h : ∀ h' tk tv tl' ti' j U, Fr g L h' m → News g L h' (a.MP w j tl' ti' [] n ++ rest) → Rem a.tx j rst → U.cps.toList = tok → R (.ok (.ret (.str U tv))) { s with heap := h', toks := tk }) :
    codeAny (model prog w) A (.call (.ref 93) ⟨[.ref a.x], []⟩) R s := by
  refine c_get h1 h2 h3 ok okp hR hL (n := n) (tl := tl) (ti := ti) (fun p hp => (N p (List.mem_append_left _ hp)).1) (X.keeps (hidden_keep F.keep fun p hp => (N p (List.mem_append_left _ hp)).2.2)) (T.keeps (hidden_keep F.keep fun p hp => (N p (List.mem_append_left _ hp)).2.2)) ?_
  intro h' tk tv tl' ti' j U st e hR' hU
  obtain ⟨F2, N2⟩ := backMP (vs' := []) (n' := n) F N hr st e
  exact h h' tk tv tl' ti' j U F2 N2 hR' hU
theorem pop_call {a : Lx} {i n : Nat} {tl ti : Tok} {v : Value} {vs : List Value} {R : Result → Shared → Prop} (ok : a.Ok w) (okp : a.pb ∉ (a.M w 0 0 0).map (·.1)) (hlen : vs.length ≤ 100) (h1 : A.handled = none) (h2 : A.depth ≤ 600) (h3 : A.units ≤ 300) (X : (hd.heap_1 w.params).In g) (T : TopRead p loose mg mb g)
    (F : Fr g L s.heap m) (N : News g L s.heap (a.MP w i tl ti (v :: vs) n ++ rest)) (hr : ∀ p ∈ rest, p.1 ∉ (a.MP w 0 0 0 [] 0).map (·.1))
    (h : ∀ h' tk n', Fr g L h' m → News g L h' (a.MP w i tl ti vs n' ++ rest) → R (.ok (.ret v)) { s with heap := h', toks := tk }) :
    codeAny (model prog w) A (.call (.ref 93) ⟨[.ref a.x], []⟩) R s := by
  refine c_pop h1 h2 h3 ok okp hlen (n := n) (i := i) (tl := tl) (ti := ti) (fun p hp => (N p (List.mem_append_left _ hp)).1) (X.keeps (hidden_keep F.keep fun p hp => (N p (List.mem_append_left _ hp)).2.2)) (T.keeps (hidden_keep F.keep fun p hp => (N p (List.mem_append_left _ hp)).2.2)) ?_
  intro h' tk n' st e
  obtain ⟨F2, N2⟩ := backMP F N hr st e
  exact h h' tk n' F2 N2
theorem push_call {a : Lx} {i n : Nat} {tl ti : Tok} {v : Value} {vs : List Value} {R : Result → Shared → Prop} (ok : a.Ok w) (okp : a.pb ∉ (a.M w 0 0 0).map (·.1)) (hlen : vs.length ≤ 100) (h1 : A.handled = none) (h2 : A.depth ≤ 600) (h3 : A.units ≤ 300) (X : (hd.heap_1 w.params).In g) (T : TopRead p loose mg mb g)
    (F : Fr g L s.heap m) (N : News g L s.heap (a.MP w i tl ti vs n ++ rest)) (hr : ∀ p ∈ rest, p.1 ∉ (a.MP w 0 0 0 [] 0).map (·.1))
    (h : ∀ h' tk n', Fr g L h' m → News g L h' (a.MP w i tl ti (vs ++ [v]) n' ++ rest) → R (.ok (.ret .none)) { s with heap := h', toks := tk }) :
    codeAny (model prog w) A (.call (.ref 100) ⟨[.ref a.x, v], []⟩) R s := by
  refine c_push h1 h2 h3 ok okp hlen (n := n) (i := i) (tl := tl) (ti := ti) (fun p hp => (N p (List.mem_append_left _ hp)).1) (X.keeps (hidden_keep F.keep fun p hp => (N p (List.mem_append_left _ hp)).2.2)) (T.keeps (hidden_keep F.keep fun p hp => (N p (List.mem_append_left _ hp)).2.2)) ?_
  intro h' tk n' st e
  obtain ⟨F2, N2⟩ := backMP F N hr st e
  exact h h' tk n' F2 N2
end
/-- behind some words of the text: at most white signs, then the other pieces -/
noncomputable def After (l : List Nat) (ps : List Piece) : Prop := ∃ wl, (∀ c ∈ wl, White c) ∧ l = wl ++ textOf ps
theorem skip_white {l t o : List Nat} (h : Lexed l t o) : ∀ {wl : List Nat}, (∀ c ∈ wl, White c) → Lexed (wl ++ l) t o
  | [], _ => h
  | c :: r, hw => .skip (hw c (.head _)) (skip_white h fun d hd => hw d (.tail _ hd))
theorem after_next {l : List Nat} {q : Piece} {ps : List Piece} (h : After l (q :: ps)) (ok : q.Ok) : ∃ l', Lexed l (plain q.es) l' ∧ After l' ps := by
  obtain ⟨wl, hw, rfl⟩ := h
  have e : textOf (q :: ps) = q.text ++ textOf ps := rfl
  rw [e]
  obtain ⟨b, es, c⟩ := q
  cases b with
  | true =>
    refine ⟨c :: textOf ps, skip_white ?_ hw, [c], (by intro d hd; rcases List.mem_singleton.mp hd with rfl; exact ok.sep), rfl⟩
    have : Piece.text ⟨true, es, c⟩ ++ textOf ps = 34 :: (enc es ++ 34 :: (c :: textOf ps)) := by simp [Piece.text]
    rw [this]
    exact .quoted (ok.quoted rfl)
  | false =>
    refine ⟨textOf ps, skip_white ?_ hw, [], (by intro d hd; cases hd), rfl⟩
    obtain ⟨hb, hne⟩ := ok.bare rfl
    have : Piece.text ⟨false, es, c⟩ ++ textOf ps = enc es ++ c :: textOf ps := by simp [Piece.text]
    rw [this]
    cases es with
    | nil => exact absurd rfl hne
    | cons e es => exact .bare hb ok.sep
theorem after_done {l : List Nat} (h : After l []) : Lexed l [] [] := by
  obtain ⟨wl, hw, rfl⟩ := h
  exact skip_white (l := textOf []) .done hw
theorem lay1 {g h : Heap} {L : Addr} {a c : Addr × Obj} {Ms : List (Addr × Obj)} (N : News g L h (a :: (Ms ++ [c]))) : News g L h (Ms ++ [a, c]) :=
  N.perm fun p hp => by
    simp only [List.mem_append, List.mem_cons, List.not_mem_nil, or_false] at hp ⊢
    rcases hp with h | h | h
    · exact .inr (.inl h)
    · exact .inl h
    · exact .inr (.inr h)
theorem unlay1 {g h : Heap} {L : Addr} {a c : Addr × Obj} {Ms : List (Addr × Obj)} (N : News g L h (Ms ++ [a, c])) : News g L h (a :: (Ms ++ [c])) :=
  N.perm fun p hp => by
    simp only [List.mem_append, List.mem_cons, List.not_mem_nil, or_false] at hp ⊢
    rcases hp with h | h | h
    · exact .inr (.inl h)
    · exact .inl h
    · exact .inr (.inr h)
theorem unlay0 {g h : Heap} {L : Addr} {c : Addr × Obj} {Ms : List (Addr × Obj)} (N : News g L h (c :: Ms)) : News g L h (Ms ++ [c]) :=
  N.perm fun p hp => by
    simp only [List.mem_append, List.mem_cons, List.not_mem_nil, or_false] at hp ⊢
    exact hp.symm
theorem str_ext {U V : Str} (h : U.cps.toList = V.cps.toList) : U = V := by
  cases U; cases V; congr 1; exact Array.toList_inj.mp h
theorem c_ports {prog : Program} {w : World} {A : Around} {s : Shared} {R : Result → Shared → Prop} {p : Program} {loose : List Str} {mg mb : Str → Option Value}
    (h1 : A.handled = none) (h2 : A.depth ≤ 550) (h3 : A.units ≤ 250) {a : Lx} {i n : Nat} {tl₀ ti₀ tmost : Tok} {l : List Nat} {ps : List Piece} {row : List Int} (ok : a.Ok w) (okp : a.pb ∉ (a.M w 0 0 0).map (·.1)) (hR : Rem a.tx i l) (hA : After l ps) (hps : ∀ q ∈ ps, q.Ok)
    (hlen : row.length ≤ 20) (hrow : ∀ x ∈ row, 253 ≤ x ∧ x ≤ 258) (hw : ∀ (k : Nat) v, (row ++ [0])[k]? = some v → ∃ u q, ps[k]? = some q ∧ plain q.es = u.cps.toList ∧ WordFor v u)
    (hM : ∀ p ∈ a.MP w i tl₀ ti₀ [] n, s.heap.get? p.1 = some p.2)
    (X : (hd.heap_1 w.params).In (hidden s.heap (a.MP w i tl₀ ti₀ [] n))) (T : TopRead p loose mg mb (hidden s.heap (a.MP w i tl₀ ti₀ [] n)))
    (h : ∀ lr h' tk vs nr tl' ti' j l', (hidden s.heap (a.MP w i tl₀ ti₀ [] n)).StaysIn h' → (∀ p ∈ a.MP w j tl' ti' [] n, h'.get? p.1 = some p.2) → s.heap.get? lr = none → h'.get? lr = some (W.listOf vs.toArray nr) → IntsAre vs row → Rem a.tx j l' → After l' (ps.drop (row.length + 1)) →
      R (.ok (.ret (.ref lr))) { s with heap := h', toks := tk }) :
    codeAny (model prog w) A (.call (.ref 187) ⟨[.ref a.x, .int ((row.length + 1 : Nat) : Int) tmost], []⟩) R s := by
  refine code_weak (d := 550) (u := 250) (by assumption) (by assumption) (by assumption) ?_
  refine' enter (by assumption) (TopRead.nolimit (by assumption)) (fun _ _ e => of_hideAll _ e) (Nat.le_of_eq (hideAll_size _ _)) (enterM_news hM) ?ho ?hcd ?hroom ?hb ?hloc ?_ ?e1 ?e2 ?e3 ?e4
  (case ho => k_is); (case hcd => k_is); (case hroom => decide); (case hb => exact BindsTo.of_eq rfl); (case hloc => exact locs rfl)
  (case e1 => exact rfl); (case e2 => exact rfl); (case e3 => exact rfl); (case e4 => decide)
  intro L' h₁ F' N' hL'; (try dsimp only); (show wpAny _ _ _ _ _ _); k_fold
  unfold hidden at X T h
  generalize hg : hideAll s.heap (List.map (fun x => x.fst) (a.MP w i tl₀ ti₀ [] n)) = g at *
  replace F' : Fr g L' h₁ (fun y => List.lookup y [(Str.ofString "most", Value.int ((row.length + 1 : Nat) : Int) tmost), (Str.ofString "lexer", Value.ref a.x)]) := F'
  have okl : ∀ b ∈ (a.MP w 0 0 0 [] 0).map (·.1), @LT.lt Nat _ b L' := by
    intro b hb
    rw [Lx.MP_keys (j := i) (tl' := tl₀) (ti' := ti₀) (vs' := []) (n' := n)] at hb
    obtain ⟨q, hq, rfl⟩ := List.mem_map.mp hb
    rw [hL']
    exact Heap.lt_size (hM q hq)
  dsimp only [Lx.MP, Lx.M, Lx.dO, Lx.eO, List.cons_append, List.nil_append] at N'
  ((try ((with_reducible show wpAny _ _ (execs _ _) _ _ _); (fail_if_success (with_reducible show wpAny _ _ _ Qh _ _)); refine hideQ ?_; intro Qh hQh)); repeat' ((fail_if_success (with_reducible show wpAny _ _ (exec (PySem.Stmt.Assign _ (PySem.Expr.ListComp _ _ _ _) _) _) _ _ _)); (fail_if_success (with_reducible show wpAny _ _ (exec (PySem.Stmt.For _ _ _ _ _) _) _ _ _)); (fail_if_success (with_reducible show wpAny _ _ (eval (PySem.Expr.ListComp _ _ _ _) _) _ _ _)); (fail_if_success (with_reducible show wpAny _ _ (call (Value.builtin "iter") _ _) _ _ _)); (fail_if_success (with_reducible show wpAny _ _ (call (Value.ref _) _ _) _ _ _)); (first | walk1 | (dsimp only; walk1) | (with_reducible apply Hid.use; with_reducible assumption))))
  refine For_ ?_
  ((try ((with_reducible show wpAny _ _ (execs _ _) _ _ _); (fail_if_success (with_reducible show wpAny _ _ _ Qh _ _)); refine hideQ ?_; intro Qh hQh)); repeat' ((fail_if_success (with_reducible show wpAny _ _ (exec (PySem.Stmt.Assign _ (PySem.Expr.ListComp _ _ _ _) _) _) _ _ _)); (fail_if_success (with_reducible show wpAny _ _ (exec (PySem.Stmt.For _ _ _ _ _) _) _ _ _)); (fail_if_success (with_reducible show wpAny _ _ (eval (PySem.Expr.ListComp _ _ _ _) _) _ _ _)); (fail_if_success (with_reducible show wpAny _ _ (call (Value.builtin "iter") _ _) _ _ _)); (fail_if_success (with_reducible show wpAny _ _ (call (Value.ref _) _ _) _ _ _)); (first | walk1 | (dsimp only; walk1) | (with_reducible apply Hid.use; with_reducible assumption))))
  (try (with_reducible apply Hid.use; with_reducible assumption)); (try dsimp only)
  rename Fr _ _ _ _ => F1
  rename News _ _ _ _ => N1
  rename IsRange _ _ _ _ _ _ _ _ => hr
  rename (_ ∧ _) => l1
  rename_i lP _ _ _ _ _ _ _ _ _ _
  have hlP : lP ∉ (a.MP w 0 0 0 [] 0).map (·.1) := by
    intro hb
    simp only [Lx.MP, Lx.M, List.cons_append, List.nil_append, List.map_cons, List.map_nil, List.mem_cons, List.not_mem_nil, or_false] at hb
    obtain ⟨c1, c2, c3, c4, c5, c6, c7, c8, c9, c10⟩ := l1
    rcases hb with e | e | e | e | e | e | e | e | e | e <;> (subst e; exact Nat.lt_irrefl _ (by assumption))
  refine for_range (n := row.length + 1)
    (fun k m news => Ex6 fun j tl ti l' vs nr => A6 (news = a.MP w j tl ti [] n ++ [(lP, W.listOf vs.toArray nr)]) (IntsAre vs (row.take k)) (Rem a.tx j l') (After l' (ps.drop k)) (k ≤ row.length) (gotN m [((PySem.Str.ofString "lexer"), Value.ref a.x), ((PySem.Str.ofString "ports"), Value.ref lP)] = wantN [((PySem.Str.ofString "lexer"), Value.ref a.x), ((PySem.Str.ofString "ports"), Value.ref lP)]))
    rfl F1 (unlay0 (Ms := a.MP w i tl₀ ti₀ [] n) N1) hr (rsmall _ (by omega)) (rsize _) ?h0 ?turn ?done
  case h0 =>
    refine ⟨i, tl₀, ti₀, l, [], 0, rfl, .nil, hR, hA, Nat.zero_le _, ?_⟩
    rfl
  case done =>
    rintro m news g' tk ⟨j, tl, ti, l', vs, nr, rfl, hv, hR, hA, hk, hm⟩ F2 N2
    omega
  case turn =>
    rintro k tv m news I oI g' tk E' hk' ⟨j, tl, ti, l', vs, nr, rfl, hv, hR, hA, hk, hm⟩ F2 N2 ha hfr
    clear F1 N1
    replace F2 := frNamesE _ F2 hm
    rw [Int.zero_add] at F2
    obtain ⟨v, hvk⟩ : ∃ v, (row ++ [0])[k]? = some v := ⟨_, List.getElem?_eq_getElem (by rw [List.length_append]; exact hk')⟩
    obtain ⟨u, q, hq, hqu, hwf⟩ := hw k v hvk
    have hport : Port v := by
      rcases List.mem_append.mp (List.mem_of_getElem? hvk) with hm | hm
      · exact .inr (hrow _ hm)
      · exact .inl (List.mem_singleton.mp hm)
    have hdrop : ps.drop k = q :: ps.drop (k + 1) := by
      obtain ⟨hl, e⟩ := List.getElem?_eq_some_iff.mp hq
      rw [List.drop_eq_getElem_cons hl, e]
    rw [hdrop] at hA
    obtain ⟨l2, hLex, hA2⟩ := after_next hA (hps _ (List.mem_of_getElem? hq))
    have hul := word_len hport hwf
    have hI : I ∉ (a.MP w 0 0 0 [] 0).map (·.1) := by
      intro hb
      rw [Lx.MP_keys (j := j) (tl' := tl) (ti' := ti) (vs' := []) (n' := n)] at hb
      obtain ⟨p, hp, e⟩ := List.mem_map.mp hb
      exact ha p (List.mem_append_left _ hp) e
    have hPI : @Ne Nat lP I := ha _ (List.mem_append_right _ (.head _))
    have hrr : ∀ (o1 o2 : Obj), ∀ p ∈ [(I, o1), (lP, o2)], p.1 ∉ (a.MP w 0 0 0 [] 0).map (·.1) := by
      intro o1 o2 p hp
      simp only [List.mem_cons, List.not_mem_nil, or_false] at hp
      rcases hp with rfl | rfl
      · exact hI
      · exact hlP
    dsimp only [Lx.MP, Lx.M, Lx.dO, Lx.eO, List.cons_append, List.nil_append] at N2
    ((try ((with_reducible show wpAny _ _ (execs _ _) _ _ _); (fail_if_success (with_reducible show wpAny _ _ _ Qh _ _)); refine hideQ ?_; intro Qh hQh)); repeat' ((fail_if_success (with_reducible show wpAny _ _ (exec (PySem.Stmt.Assign _ (PySem.Expr.ListComp _ _ _ _) _) _) _ _ _)); (fail_if_success (with_reducible show wpAny _ _ (exec (PySem.Stmt.For _ _ _ _ _) _) _ _ _)); (fail_if_success (with_reducible show wpAny _ _ (eval (PySem.Expr.ListComp _ _ _ _) _) _ _ _)); (fail_if_success (with_reducible show wpAny _ _ (call (Value.builtin "iter") _ _) _ _ _)); (fail_if_success (with_reducible show wpAny _ _ (call (Value.ref _) _ _) _ _ _)); (first | walk1 | (dsimp only; walk1) | (with_reducible apply Hid.use; with_reducible assumption))))
    rename Fr _ _ _ _ => F4
    rename News _ _ _ _ => N4
    refine wpAny_call (get_call (rest := [(I, oI), (lP, W.listOf vs.toArray nr)]) ok okp hR hLex (n := n) (tl := tl) (ti := ti) rfl (Nat.le_of_ble_eq_true rfl) (Nat.le_of_ble_eq_true rfl) X T F4 (lay1 (Ms := a.MP w j tl ti [] n) N4) (hrr _ _) ?_)
    intro h5 tk5 tv5 tl5 ti5 j5 U F5 N5 hR5 hU
    obtain rfl : U = u := str_ext (hU.trans hqu)
    (try (with_reducible apply Hid.use; with_reducible assumption)); (try dsimp only)
    clear F4 N4
    have hul2 : U.length ≤ 20 := hul.2
    dsimp only [Lx.MP, Lx.M, Lx.dO, Lx.eO, List.cons_append, List.nil_append] at N5
    ((try ((with_reducible show wpAny _ _ (execs _ _) _ _ _); (fail_if_success (with_reducible show wpAny _ _ _ Qh _ _)); refine hideQ ?_; intro Qh hQh)); repeat' ((fail_if_success (with_reducible show wpAny _ _ (exec (PySem.Stmt.Assign _ (PySem.Expr.ListComp _ _ _ _) _) _) _ _ _)); (fail_if_success (with_reducible show wpAny _ _ (exec (PySem.Stmt.For _ _ _ _ _) _) _ _ _)); (fail_if_success (with_reducible show wpAny _ _ (eval (PySem.Expr.ListComp _ _ _ _) _) _ _ _)); (fail_if_success (with_reducible show wpAny _ _ (call (Value.builtin "iter") _ _) _ _ _)); (fail_if_success (with_reducible show wpAny _ _ (call (Value.ref _) _ _) _ _ _)); (first | walk1 | (dsimp only; walk1) | (with_reducible apply Hid.use; with_reducible assumption))))
    rename Fr _ _ _ _ => F4
    rename News _ _ _ _ => N4
    obtain ⟨n0, m0, wd, p0, p1, p2, p3, p4, hrep⟩ := word_reply hport hwf
    refine wpAny_call (c_parse (place := (k : Int)) (x := respOf U) (v := v) rfl (Nat.le_of_ble_eq_true rfl) (Nat.le_of_ble_eq_true rfl) (X.keeps F4.keep) (T.keeps F4.keep) ⟨_, News.get N4 (.head _), rfl, _, rfl⟩ hrep ?_)
    intro lt h6 tk6 t1 t2 k6 n6 e6
    obtain ⟨F6, N6⟩ := one_more F4 N4 k6 n6 e6
    clear F4 N4 e6 k6 n6
    (try (with_reducible apply Hid.use; with_reducible assumption)); (try dsimp only)
    ((try ((with_reducible show wpAny _ _ (execs _ _) _ _ _); (fail_if_success (with_reducible show wpAny _ _ _ Qh _ _)); refine hideQ ?_; intro Qh hQh)); repeat' ((fail_if_success (with_reducible show wpAny _ _ (exec (PySem.Stmt.Assign _ (PySem.Expr.ListComp _ _ _ _) _) _) _ _ _)); (fail_if_success (with_reducible show wpAny _ _ (exec (PySem.Stmt.For _ _ _ _ _) _) _ _ _)); (fail_if_success (with_reducible show wpAny _ _ (eval (PySem.Expr.ListComp _ _ _ _) _) _ _ _)); (fail_if_success (with_reducible show wpAny _ _ (call (Value.builtin "iter") _ _) _ _ _)); (fail_if_success (with_reducible show wpAny _ _ (call (Value.ref _) _ _) _ _ _)); (first | walk1 | (dsimp only; walk1) | (with_reducible apply Hid.use; with_reducible assumption))))
    · exact absurd rfl (by assumption)
    rename Fr _ _ _ _ => F4
    rename News _ _ _ _ => N4
    refine wpAny_call (c_iseof rfl (Nat.le_of_ble_eq_true rfl) (Nat.le_of_ble_eq_true rfl) (X.keeps F4.keep) (T.keeps F4.keep) ?_)
    intro h7 tk7 k7
    have F7 := F4.keeps k7
    have N7 := N4.grown k7
    clear F4 N4 k7
    replace N7 := N7.tail'.tail'
    (try (with_reducible apply Hid.use; with_reducible assumption)); (try dsimp only)
    by_cases q0 : k < row.length
    · have hvr : row[k]? = some v := by rw [List.getElem?_append_left q0] at hvk; exact hvk
      have hv0 : ¬ (v = 0) := by have := hrow _ (List.mem_of_getElem? hvr); omega
      rw [decide_eq_false hv0]
      ((try ((with_reducible show wpAny _ _ (execs _ _) _ _ _); (fail_if_success (with_reducible show wpAny _ _ _ Qh _ _)); refine hideQ ?_; intro Qh hQh)); repeat' ((fail_if_success (with_reducible show wpAny _ _ (exec (PySem.Stmt.Assign _ (PySem.Expr.ListComp _ _ _ _) _) _) _ _ _)); (fail_if_success (with_reducible show wpAny _ _ (exec (PySem.Stmt.For _ _ _ _ _) _) _ _ _)); (fail_if_success (with_reducible show wpAny _ _ (eval (PySem.Expr.ListComp _ _ _ _) _) _ _ _)); (fail_if_success (with_reducible show wpAny _ _ (call (Value.builtin "iter") _ _) _ _ _)); (fail_if_success (with_reducible show wpAny _ _ (call (Value.ref _) _ _) _ _ _)); (first | walk1 | (dsimp only; walk1) | (with_reducible apply Hid.use; with_reducible assumption))))
      (try (with_reducible apply Hid.use; with_reducible assumption)); (try dsimp only)
      rename Fr _ _ _ _ => F4
      rename News _ _ _ _ => N4
      rw [show vs.toArray.push (Value.int v t2) = (vs ++ [Value.int v t2]).toArray from by simp] at N4
      refine Turn.next (a.MP w j5 tl5 ti5 [] n ++ [(lP, _)]) F4 (unlay1 (Ms := a.MP w j5 tl5 ti5 [] n) N4) (fun p hp => hp) (fun p hp => ?_) ⟨j5, tl5, ti5, l2, _, _, rfl, ?_, hR5, hA2, q0, ?_⟩
      · rcases List.mem_append.mp hp with hp | hp
        · intro e
          refine hI ?_
          rw [Lx.MP_keys (j := j5) (tl' := tl5) (ti' := ti5) (vs' := []) (n' := n)]
          exact List.mem_map.mpr ⟨p, hp, e⟩
        · rcases List.mem_singleton.mp hp with rfl; exact hPI
      · rw [List.take_add_one, hvr]; exact ints_snoc hv
      · rfl
    · have hk0 : k = row.length := by omega
      have hv0 : v = 0 := by
        rw [hk0, List.getElem?_append_right (Nat.le_refl _), Nat.sub_self] at hvk
        simpa using hvk.symm
      rw [decide_eq_true hv0]
      ((try ((with_reducible show wpAny _ _ (execs _ _) _ _ _); (fail_if_success (with_reducible show wpAny _ _ _ Qh _ _)); refine hideQ ?_; intro Qh hQh)); repeat' ((fail_if_success (with_reducible show wpAny _ _ (exec (PySem.Stmt.Assign _ (PySem.Expr.ListComp _ _ _ _) _) _) _ _ _)); (fail_if_success (with_reducible show wpAny _ _ (exec (PySem.Stmt.For _ _ _ _ _) _) _ _ _)); (fail_if_success (with_reducible show wpAny _ _ (eval (PySem.Expr.ListComp _ _ _ _) _) _ _ _)); (fail_if_success (with_reducible show wpAny _ _ (call (Value.builtin "iter") _ _) _ _ _)); (fail_if_success (with_reducible show wpAny _ _ (call (Value.ref _) _ _) _ _ _)); (first | walk1 | (dsimp only; walk1) | (with_reducible apply Hid.use; with_reducible assumption))))
      repeat (first | dsimp only [Turn] | (with_reducible apply Hid.use; with_reducible assumption))
      try k_unfold
      (try (with_reducible apply Hid.use; with_reducible assumption)); (try dsimp only)
      rename Fr _ _ _ _ => F4
      rename News _ _ _ _ => N4
      subst hk0
      rw [List.take_length] at hv
      have zP := N4 (lP, W.listOf vs.toArray nr) (by k_mem)
      refine h lP _ _ vs nr tl5 ti5 j5 l2 F4.keep (fun p hp => ((show News g L' _ (a.MP w j5 tl5 ti5 [] n ++ [(I, oI), (lP, W.listOf vs.toArray nr)]) from N4) p (List.mem_append_left _ hp)).1) ?_ zP.1 hv hR5 hA2
      cases q : s.heap.get? lP with
      | none => rfl
      | some o =>
        have z1 := hidden_get (M := a.MP w i tl₀ ti₀ [] n) q (fun hm => hlP (by rw [Lx.MP_keys (j := i) (tl' := tl₀) (ti' := ti₀) (vs' := []) (n' := n)]; exact hm))
        have z2 : (hidden s.heap (a.MP w i tl₀ ti₀ [] n)).get? lP = none := by unfold hidden; rw [hg]; exact zP.2.2
        rw [z2] at z1; cases z1

end
/-! C_cut -/
section
noncomputable def cutAt (row sz : List Int) (k : Nat) : List Int :=
  PySem.W.sortI (((row.drop ((sz.take k).sum).toNat)).take (min ((sz.take k).sum + sz.getD k 0).toNat row.length - ((sz.take k).sum).toNat))
/-- the list that the loop fills, and the tuples in it -/
theorem cut_append {prog : Program} {w : World} {A : Around} {E : Value → Shared → Prop} {s : Shared} {g : Heap} {L lC I D D1 D2 : Addr} {m : Str → Option Value} {oI o1 o2 : Obj} {cs : List (Addr × List Value)} {v' : List Value} {n : Nat} {Q : Value → Shared → Prop}
    (F : Fr g L s.heap m) (N : News g L s.heap ((D, tupO v') :: (D1, o1) :: (D2, o2) :: (I, oI) :: (lC, W.listOf (cs.map fun c => Value.ref c.1).toArray n) :: cs.map rowObj)) (hI : @Ne Nat lC I) (hl : cs.length ≤ 100)
    (h : ∀ h', Fr g L h' m → News g L h' ((I, oI) :: (lC, W.listOf ((cs ++ [(D, v')]).map fun c => Value.ref c.1).toArray (n + 1)) :: (cs ++ [(D, v')]).map rowObj) → (@Ne Nat D I ∨ oI = tupO v') → Q .none { s with heap := h' }) :
    wpAny (model prog w) A (call (.builtin "list.append") [.ref lC, .ref D]) Q E s := by
  have mC : (lC, W.listOf (cs.map fun c => Value.ref c.1).toArray n) ∈ ((D, tupO v') :: (D1, o1) :: (D2, o2) :: (I, oI) :: (lC, W.listOf (cs.map fun c => Value.ref c.1).toArray n) :: cs.map rowObj) := .tail _ (.tail _ (.tail _ (.tail _ (.head _))))
  refine append_any F N mC (by rw [List.length_map]; omega) ((I, oI) :: (lC, W.listOf ((cs ++ [(D, v')]).map fun c => Value.ref c.1).toArray (n + 1)) :: (cs ++ [(D, v')]).map rowObj) (fun p hp => ?_) (fun h' F' N' => h h' F' N' ?_)
  · simp only [List.map_append, List.map_cons, List.map_nil, List.mem_cons, List.mem_append, List.not_mem_nil, or_false] at hp
    rcases hp with rfl | rfl | hp | rfl
    · exact .inr ⟨.tail _ (.tail _ (.tail _ (.head _))), Ne.symm hI⟩
    · exact .inl rfl
    · have hm : p ∈ ((D, tupO v') :: (D1, o1) :: (D2, o2) :: (I, oI) :: (lC, W.listOf (cs.map fun c => Value.ref c.1).toArray n) :: cs.map rowObj) := .tail _ (.tail _ (.tail _ (.tail _ (.tail _ hp))))
      refine .inr ⟨hm, News.twoPlaces N hm mC ?_⟩
      obtain ⟨c, _, rfl⟩ := List.mem_map.mp hp
      exact tup_ne_list
    · exact .inr ⟨.head _, News.twoPlaces N (.head _) mC tup_ne_list⟩
  · by_cases e : D = I
    · right
      have z1 := (N _ (.head _)).1
      have z2 := (N _ (.tail _ (.tail _ (.tail _ (.head _))))).1
      dsimp only at z1 z2
      rw [e, z2] at z1
      exact Option.some.inj z1
    · exact .inl e
theorem c_cut {prog : Program} {w : World} {A : Around} {s : Shared} {R : Result → Shared → Prop} {p : Program} {loose : List Str} {mg mb : Str → Option Value}
    (h1 : A.handled = none) (h2 : A.depth ≤ 700) (h3 : A.units ≤ 400)
    (X : (hd.heap_1 w.params).In s.heap) (T : TopRead p loose mg mb s.heap) {lp ls : Addr} {vp vs : List Value} {row sz : List Int} (hlp : s.heap.IsList lp vp.toArray) (hip : IntsAre vp row) (hls : s.heap.IsList ls vs.toArray) (his : IntsAre vs sz) (hrow : row.length ≤ 20) (hsl : sz.length ≤ 4) (hsz : ∀ x ∈ sz, 1 ≤ x ∧ x ≤ 3)
    (h : ∀ l h' tk (cs : List (Addr × List Value)) n, s.heap.StaysIn h' → cs.length = sz.length → (∀ (k : Nat) c, cs[k]? = some c → IntsAre c.2 (cutAt row sz k)) → (∀ p ∈ (l, W.listOf (cs.map fun c => Value.ref c.1).toArray n) :: cs.map rowObj, h'.get? p.1 = some p.2 ∧ s.heap.get? p.1 = none) → R (.ok (.ret (.ref l))) { s with heap := h', toks := tk }) :
    codeAny (model prog w) A (.call (.ref 194) ⟨[.ref lp, .ref ls], []⟩) R s := by
  refine code_weak (d := 700) (u := 400) (by assumption) (by assumption) (by assumption) ?_
  refine' enter (by assumption) (TopRead.nolimit (by assumption)) (fun _ _ e => e) (Nat.le_refl _) (news := []) (fun _ hp => nomatch hp) ?ho ?hcd ?hroom ?hb ?hloc ?_ ?e1 ?e2 ?e3 ?e4
  (case ho => k_is); (case hcd => k_is); (case hroom => decide); (case hb => exact BindsTo.of_eq rfl); (case hloc => exact locs rfl)
  (case e1 => exact rfl); (case e2 => exact rfl); (case e3 => exact rfl); (case e4 => decide)
  intro L' h₁ F' N' hL'; (try dsimp only); (show wpAny _ _ _ _ _ _); k_fold
  replace F' : Fr s.heap L' h₁ (fun y => List.lookup y [(Str.ofString "sizes", Value.ref ls), (Str.ofString "ports", Value.ref lp)]) := F'
  ((try ((with_reducible show wpAny _ _ (execs _ _) _ _ _); (fail_if_success (with_reducible show wpAny _ _ _ Qh _ _)); refine hideQ ?_; intro Qh hQh)); repeat' ((fail_if_success (with_reducible show wpAny _ _ (exec (PySem.Stmt.Assign _ (PySem.Expr.ListComp _ _ _ _) _) _) _ _ _)); (fail_if_success (with_reducible show wpAny _ _ (exec (PySem.Stmt.For _ _ _ _ _) _) _ _ _)); (fail_if_success (with_reducible show wpAny _ _ (eval (PySem.Expr.ListComp _ _ _ _) _) _ _ _)); (first | walk1 | (dsimp only; walk1) | (with_reducible apply Hid.use; with_reducible assumption))))
  refine For_ ?_
  ((try ((with_reducible show wpAny _ _ (execs _ _) _ _ _); (fail_if_success (with_reducible show wpAny _ _ _ Qh _ _)); refine hideQ ?_; intro Qh hQh)); repeat' ((fail_if_success (with_reducible show wpAny _ _ (exec (PySem.Stmt.Assign _ (PySem.Expr.ListComp _ _ _ _) _) _) _ _ _)); (fail_if_success (with_reducible show wpAny _ _ (exec (PySem.Stmt.For _ _ _ _ _) _) _ _ _)); (fail_if_success (with_reducible show wpAny _ _ (eval (PySem.Expr.ListComp _ _ _ _) _) _ _ _)); (first | walk1 | (dsimp only; walk1) | (with_reducible apply Hid.use; with_reducible assumption))))
  (try (with_reducible apply Hid.use; with_reducible assumption)); (try dsimp only)
  rename Fr _ _ _ _ => F1
  rename News _ _ _ _ => N1
  rename_i lC _ _ _ _ 
  refine for_listK (src := []) (its := vs.toArray)
    (fun i m news => Ex4 fun (cs : List (Addr × List Value)) (n : Nat) (pl : Int) (tp : Tok) => A7 (news = (lC, W.listOf (cs.map fun c => Value.ref c.1).toArray n) :: cs.map rowObj) (cs.length = i) (pl = (sz.take i).sum) (0 ≤ pl) (pl ≤ 3 * (i : Int)) ((∀ (k : Nat) c, cs[k]? = some c → IntsAre c.2 (cutAt row sz k))) (gotN m [((PySem.Str.ofString "ports"), Value.ref lp), ((PySem.Str.ofString "clauses"), Value.ref lC), ((PySem.Str.ofString "place"), Value.int pl tp)] = wantN [((PySem.Str.ofString "ports"), Value.ref lp), ((PySem.Str.ofString "clauses"), Value.ref lC), ((PySem.Str.ofString "place"), Value.int pl tp)]))
    rfl F1 N1 (.inl ⟨hls, rfl⟩) (fun _ _ _ _ p hp => by cases hp) ?h0 ?turn ?done
  case h0 =>
    refine' ⟨[], 0, 0, _, rfl, rfl, rfl, by decide, by decide, (by intro k c hc; simp at hc), ?hm⟩
    case hm =>
      rfl
  case done =>
    rintro m news g' tk ⟨cs, n, pl, tp, rfl, hcl, hpl, hp0, hp1, hcut, hm⟩ F2 N2
    clear F1 N1
    replace F2 := frNamesE' _ F2 hm
    ((try ((with_reducible show wpAny _ _ (execs _ _) _ _ _); (fail_if_success (with_reducible show wpAny _ _ _ Qh _ _)); refine hideQ ?_; intro Qh hQh)); repeat' ((fail_if_success (with_reducible show wpAny _ _ (exec (PySem.Stmt.Assign _ (PySem.Expr.ListComp _ _ _ _) _) _) _ _ _)); (fail_if_success (with_reducible show wpAny _ _ (exec (PySem.Stmt.For _ _ _ _ _) _) _ _ _)); (fail_if_success (with_reducible show wpAny _ _ (eval (PySem.Expr.ListComp _ _ _ _) _) _ _ _)); (first | walk1 | (dsimp only; walk1) | (with_reducible apply Hid.use; with_reducible assumption))))
    (try (with_reducible apply Hid.use; with_reducible assumption)); (try dsimp only)
    try k_unfold
    (try (with_reducible apply Hid.use; with_reducible assumption)); (try dsimp only)
    rename Fr _ _ _ _ => F4
    rename News _ _ _ _ => N4
    rw [List.size_toArray, his.length] at hcl
    exact h lC _ _ cs n F4.keep hcl hcut fun p hp => ⟨(N4 p hp).1, (N4 p hp).2.2⟩
  case turn =>
    rintro i v m news I oI g' tk E' hcI hv ⟨cs, n, pl, tp, rfl, hcl, hpl, hp0, hp1, hcut, hm⟩ F2 N2 ha hfr
    obtain ⟨sz1, t1, rfl, hs1⟩ := his.at i v (by simpa using hv)
    have hsb := hsz _ (List.mem_of_getElem? hs1)
    have hi4 : i < sz.length := (List.getElem?_eq_some_iff.mp hs1).1
    clear F1 N1
    replace F2 := frNamesE _ F2 hm
    have a1 : @Ne Nat lC I := ha _ (.head _)
    have hlp2 := hlp.at fun o e => F2.keep _ o e
    ((try ((with_reducible show wpAny _ _ (execs _ _) _ _ _); (fail_if_success (with_reducible show wpAny _ _ _ Qh _ _)); refine hideQ ?_; intro Qh hQh)); repeat' ((fail_if_success (with_reducible show wpAny _ _ (exec (PySem.Stmt.Assign _ (PySem.Expr.ListComp _ _ _ _) _) _) _ _ _)); (fail_if_success (with_reducible show wpAny _ _ (exec (PySem.Stmt.For _ _ _ _ _) _) _ _ _)); (fail_if_success (with_reducible show wpAny _ _ (eval (PySem.Expr.ListComp _ _ _ _) _) _ _ _)); (first | walk1 | (dsimp only; walk1) | (with_reducible apply Hid.use; with_reducible assumption))))
    rename Fr _ _ _ _ => F4
    rename News _ _ _ _ => N4
    rename List.Pairwise _ _ => hsr
    rename List.Perm _ _ => hpm
    have hsrt := PySem.W.eq_sortI hpm hsr
    refine cut_append F4 N4 a1 (by omega) ?_
    intro h5 F5 N5 hDI
    clear F4 N4
    ((try ((with_reducible show wpAny _ _ (execs _ _) _ _ _); (fail_if_success (with_reducible show wpAny _ _ _ Qh _ _)); refine hideQ ?_; intro Qh hQh)); repeat' ((fail_if_success (with_reducible show wpAny _ _ (exec (PySem.Stmt.Assign _ (PySem.Expr.ListComp _ _ _ _) _) _) _ _ _)); (fail_if_success (with_reducible show wpAny _ _ (exec (PySem.Stmt.For _ _ _ _ _) _) _ _ _)); (fail_if_success (with_reducible show wpAny _ _ (eval (PySem.Expr.ListComp _ _ _ _) _) _ _ _)); (first | walk1 | (dsimp only; walk1) | (with_reducible apply Hid.use; with_reducible assumption))))
    (try (with_reducible apply Hid.use; with_reducible assumption)); (try dsimp only)
    rename Fr _ _ _ _ => F4
    rename News _ _ _ _ => N4
    have hml : (cs.map fun c => Value.ref c.1).length = i := by rw [List.length_map, hcl]
    have hsum : (sz.take (i + 1)).sum = pl + sz1 := by rw [List.take_add_one, hs1, hpl]; simp
    refine' Turn.next (_ :: _) F4 N4 (fun p hp => hp) ?pI ⟨cs ++ [(_, _)], _, pl + sz1, _, rfl, by rw [List.length_append, hcl]; rfl, hsum.symm, by omega, by omega, ?pcut, ?phm⟩
    case pI =>
      intro p hp
      simp only [List.mem_cons] at hp
      rcases hp with rfl | hp
      · exact a1
      · rw [List.map_append] at hp
        rcases List.mem_append.mp hp with hp | hp
        · exact ha p (.tail _ hp)
        · rcases List.mem_singleton.mp hp with rfl
          rcases hDI with h | h
          · exact h
          · rw [h] at hcI; exact absurd hcI (by simp)
    case pcut =>
      intro k c hk
      by_cases q : k < cs.length
      · rw [List.getElem?_append_left q] at hk; exact hcut k c hk
      · have hlt : k < cs.length + 1 := by
          have := (List.getElem?_eq_some_iff.mp hk).1
          rwa [List.length_append] at this
        have e2 : k = cs.length := by omega
        subst e2
        rw [List.getElem?_append_right (Nat.le_refl _), Nat.sub_self] at hk
        simp only [List.getElem?_cons_zero, Option.some.injEq] at hk
        subst hk
        rw [hcl]
        have e3 : cutAt row sz i = PySem.W.sortI (List.take (min (pl + sz1).toNat row.length - pl.toNat) (List.drop pl.toNat row)) := by
          unfold cutAt
          rw [← hpl, List.getD_eq_getElem?_getD, hs1]; rfl
        rw [e3, ← hsrt]
        assumption
    case phm =>
      rfl

end
/-! C_gen -/
section
noncomputable def fnAt (K : Frag) (a : Addr) : Option (Str × List Stmt × Scope × Value) := match K.lookup a with
  | some ⟨_, _, .func fd, _⟩ => match fd.body with
    | .stmts b => some (fd.qualname, b, fd.scope, fd.code)
    | _ => none
  | _ => none
noncomputable def forAt : List Stmt → Option (Str × Pos × List Stmt × Pos)
  | .For (.Name x px) _ b _ p :: _ => some (x, px, b, p)
  | _ :: r => forAt r
  | [] => none
theorem pick_use4 {α β γ δ : Type} {o : Option (α × β × γ × δ)} {a a' : α} {b b' : β} {c c' : γ} {d d' : δ} (h : o = some (a, b, c, d)) (h' : o = some (a', b', c', d')) : a = a' ∧ b = b' ∧ c = c' ∧ d = d' := by
  rw [h] at h'; cases h'; exact ⟨rfl, rfl, rfl, rfl⟩
theorem wp_weak {α : Type} {M : Model} {A : Around} {m : Sem α} {Q : α → Shared → Prop} {E : Value → Shared → Prop} {s : Shared} {d u : Nat}
    (h1 : A.handled = none) (h2 : A.depth ≤ d) (h3 : A.units ≤ u) (h : wpAny M ⟨none, d, none, none, u⟩ m Q E s) : wpAny M A m Q E s := fun Γ p hΓ =>
  h Γ p ⟨hΓ.1.trans h1, Nat.le_trans hΓ.2.1 h2, (fun l e => by cases e), (fun g e => by cases e), Nat.le_trans hΓ.2.2.2.2 h3⟩
/-- the caller's objects, as they stand -/
noncomputable def restOf (h : Heap) (bs : List Addr) : List (Addr × Obj) := bs.filterMap fun b => (h.get? b).map fun o => (b, o)
theorem mem_restOf {h : Heap} {bs : List Addr} {p : Addr × Obj} : p ∈ restOf h bs ↔ p.1 ∈ bs ∧ h.get? p.1 = some p.2 := by
  unfold restOf
  rw [List.mem_filterMap]
  constructor
  · rintro ⟨b, hb, e⟩
    obtain ⟨o, h1, h2⟩ := Option.map_eq_some_iff.mp e
    subst h2; exact ⟨hb, h1⟩
  · rintro ⟨h1, h2⟩
    exact ⟨p.1, h1, by rw [h2]; rfl⟩
/-- a yield of the generator hands out the next of the values -/
noncomputable def YT (g : Heap) (C : Addr) (bs : List Addr) (outs : List Int) : Protocol := fun n s₀ v s' kap => ∃ It oI oC x t, (∃ h tk, s' = { s₀ with heap := h, toks := tk }) ∧ v = .int x t ∧ n ≤ 3 ∧ outs[3 - n]? = some x ∧ g.StaysIn s'.heap ∧ (∀ q ∈ restOf s₀.heap bs, s'.heap.get? q.1 = some q.2) ∧ g.get? It = none ∧ It ≠ C ∧ s'.heap.get? C = some oC ∧ s'.heap.get? It = some oI ∧ It ∉ bs ∧
  (0 < n → ∀ s'' : Shared, g.StaysIn s''.heap → s''.heap.get? C = some oC → s''.heap.get? It = some oI → kap (.send .none) s'')
/-- how the generator ends -/
noncomputable def RT (g : Heap) (bs : List Addr) (outs : List Int) (bad : Bool) : GenEnd := fun n s₀ r s₁ => (r = .ok (.ret .none) ∧ (∃ h tk, s₁ = { s₀ with heap := h, toks := tk }) ∧ g.StaysIn s₁.heap ∧ (∀ q ∈ restOf s₀.heap bs, s₁.heap.get? q.1 = some q.2) ∧ outs.length + n = 4) ∨
  ∃ e, r = .error e ∧ (∃ h tk, s₁ = { s₀ with heap := h, toks := tk }) ∧ g.StaysIn s₁.heap ∧ (∀ q ∈ restOf s₀.heap bs, s₁.heap.get? q.1 = some q.2) ∧ bad = true ∧ s₁.TypeIs e "ValueError"
/-- the values of the generator: at most so many -/
noncomputable def told : Nat → Option Int → List Int → List Int
  | 0, _, _ => []
  | _ + 1, _, [] => []
  | n + 1, last, x :: r => if x = 127 then [] else if x = 0 then (match last with | none => [] | some v => List.replicate (n + 1) v) else x :: told n (some x) r
noncomputable def whAt : List Stmt → Option (Expr × List Stmt × Pos × Pos)
  | [_, .If _ [_, .While t b _ p] _ q, _, _] => some (t, b, p, q)
  | _ => none
theorem gen_while {prog : Program} {w : World} {A : Around} {p : Program} {loose : List Str} {mg mb : Str → Option Value} {g : Heap} {C : Addr} {ql : Str} {bd lb wb : List Stmt} {tst : Expr} {sc : Scope} {cd : Value} {x : Str} {px pf pw pw2 : Pos} {outs : List Int} {bs : List Addr} {bad : Bool} {fs : List Frame}
    (hpk : fnAt (hd.heap_1 w.params) 21 = some (ql, bd, sc, cd)) (hfb : forAt bd = some (x, px, lb, pf)) (hwb : whAt lb = some (tst, wb, pw, pw2)) (hf1 : splitAtGen fs = none) (hf2 : fs.any Frame.guarded = false)
    (h1 : (A.over (.whileLoop tst wb [] (envOf ql sc C 21 cd)) fs).handled = none) (h2 : (A.over (.whileLoop tst wb [] (envOf ql sc C 21 cd)) fs).depth ≤ 700) (h3 : (A.over (.whileLoop tst wb [] (envOf ql sc C 21 cd)) fs).units ≤ 400)
    (X : (hd.heap_1 w.params).In g) (T : TopRead p loose mg mb g) (hbs : ∀ b ∈ bs, g.get? b = none ∧ b ≠ C) :
    ∀ (m : Nat) (s₀ s : Shared) (It : Addr) (mC : Str → Option Value) (v : Int) (t : Tok) (oI : Obj),
      outs.drop (3 - m) = List.replicate (m + 1) v → m ≤ 3 → Fr g C s.heap mC → News g C s.heap ((It, oI) :: restOf s₀.heap bs) → It ∉ bs → (∃ h tk, s = { s₀ with heap := h, toks := tk }) → (∀ q ∈ [(Str.ofString "last_interval", Value.int v t)], mC q.1 = some q.2) →
      Seg (model prog w) A (RT g bs outs bad) (YT g C bs outs) (m + 1) s₀ (.whileLoop tst wb [] (envOf ql sc C 21 cd)) ((model prog w).den (.whileLoop tst wb [] (envOf ql sc C 21 cd))) fs s := by
  obtain ⟨q1, q2, q3, q4⟩ := pick_use4 hpk (by with_unfolding_all rfl)
  subst q1 q2 q3 q4
  obtain ⟨q1, q2, q3, q4⟩ := pick_use4 hfb (by with_unfolding_all rfl)
  subst q1 q2 q3 q4
  obtain ⟨q1, q2, q3, q4⟩ := pick_use4 hwb (by with_unfolding_all rfl)
  subst q1 q2 q3 q4
  intro m
  induction m using Nat.strongRecOn with
  | ind m ih =>
    intro s₀ s It mC v t oI hout hm F N hIb hS hnm
    refine seg_whileLoop ?_
    (refine wp_weak (d := 700) (u := 400) (by assumption) (by assumption) (by assumption) ?_)
    replace F := frNames' _ F hnm
    ((try ((with_reducible show wpAny _ _ (execs _ _) _ _ _); (fail_if_success (with_reducible show wpAny _ _ _ Qh _ _)); refine hideQ ?_; intro Qh hQh)); repeat' ((fail_if_success (with_reducible show wpAny _ _ (exec (PySem.Stmt.Assign _ (PySem.Expr.ListComp _ _ _ _) _) _) _ _ _)); (fail_if_success (with_reducible show wpAny _ _ (exec (PySem.Stmt.For _ _ _ _ _) _) _ _ _)); (fail_if_success (with_reducible show wpAny _ _ (eval (PySem.Expr.ListComp _ _ _ _) _) _ _ _)); (first | walk1 | (dsimp only; walk1) | (with_reducible apply Hid.use; with_reducible assumption))))
    refine seg_execs_cons (seg_Expr_Yield (by assumption) (by rfl) (by assumption) ?_)
    (refine wp_weak (d := 700) (u := 400) (by assumption) (by assumption) (by assumption) ?_)
    ((try ((with_reducible show wpAny _ _ (execs _ _) _ _ _); (fail_if_success (with_reducible show wpAny _ _ _ Qh _ _)); refine hideQ ?_; intro Qh hQh)); repeat' ((fail_if_success (with_reducible show wpAny _ _ (exec (PySem.Stmt.Assign _ (PySem.Expr.ListComp _ _ _ _) _) _) _ _ _)); (fail_if_success (with_reducible show wpAny _ _ (exec (PySem.Stmt.For _ _ _ _ _) _) _ _ _)); (fail_if_success (with_reducible show wpAny _ _ (eval (PySem.Expr.ListComp _ _ _ _) _) _ _ _)); (first | walk1 | (dsimp only; walk1) | (with_reducible apply Hid.use; with_reducible assumption))))
    rename Fr _ _ _ _ => F4
    rename News _ _ _ _ => N4
    rename (∀ (_ : Value) (_ : Shared), _ → _) => hkap
    obtain ⟨oC, esC, epC, hoC, hrC⟩ := F4.ns
    have habove := F4.above
    have hnI := (N4 _ (.head _)).2
    rw [List.replicate_succ] at hout
    have ho0 : outs[3 - m]? = some v := by
      have := congrArg (·[0]?) hout
      simpa using this
    refine ⟨It, oI, oC, v, t, ?eqS, rfl, hm, ho0, F4.keep, fun q hq => (N4 q (.tail _ hq)).1, hnI.2, hnI.1, hoC, (N4 _ (.head _)).1, hIb, fun hm0 s'' hst hCo hIo => hkap .none s'' ?kap⟩
    case eqS =>
      obtain ⟨hh, tk, rfl⟩ := hS
      exact ⟨_, _, rfl⟩
    case kap =>
      obtain ⟨m', rfl⟩ : ∃ m', m = m' + 1 := ⟨m - 1, by omega⟩
      have F5 : Fr g C s''.heap _ := ⟨⟨oC, esC, epC, hCo, hrC⟩, hst, habove⟩
      have N5 : News g C s''.heap ((It, oI) :: restOf s''.heap bs) := fun q hq => by
        rcases List.mem_cons.mp hq with rfl | hq
        · exact ⟨hIo, hnI⟩
        · obtain ⟨z1, z2⟩ := mem_restOf.mp hq
          exact ⟨z2, (hbs _ z1).2, (hbs _ z1).1⟩
      clear F4 N4
      (try (with_reducible apply Hid.use; with_reducible assumption)); (try dsimp only)
      refine seg_execs_nil (K := fun f => match f with | .next => .pure (.again _) | .cont => .pure (.again _) | .brk => .pure (.done .next) | .ret v => .pure (.done (.ret v))) ?_
      (try (with_reducible apply Hid.use; with_reducible assumption)); (try dsimp only)
      refine seg_again rfl ?_
      have hlt := (List.getElem?_eq_some_iff.mp ho0).1
      have hd3 : 3 - m' = (3 - (m' + 1)) + 1 := by omega
      refine ih m' (by omega) s'' s'' It _ v t oI ?_ (by omega) F5 N5 hIb ⟨_, _, rfl⟩ ?_
      · rw [hd3, ← List.drop_drop, hout]; rfl
      · intro q hq
        rcases List.mem_singleton.mp hq with rfl
        rfl
theorem gen_loop {prog : Program} {w : World} {A : Around} {p : Program} {loose : List Str} {mg mb : Str → Option Value} {g : Heap} {C lr : Addr} {ql : Str} {bd lb wb : List Stmt} {tst : Expr} {sc : Scope} {cd : Value} {x : Str} {px pf pw pw2 : Pos} {vs : List Value} {rs outs : List Int} {bs : List Addr} {bad : Bool}
    (hpk : fnAt (hd.heap_1 w.params) 21 = some (ql, bd, sc, cd)) (hfb : forAt bd = some (x, px, lb, pf)) (hwb : whAt lb = some (tst, wb, pw, pw2)) (h1 : A.handled = none) (h2 : A.depth ≤ 600) (h3 : A.units ≤ 300)
    (X : (hd.heap_1 w.params).In g) (T : TopRead p loose mg mb g) (hl : g.IsList lr vs.toArray) (hi : IntsAre vs rs) (hbs : ∀ b ∈ bs, g.get? b = none ∧ b ≠ C) :
    ∀ (rem : List Int) (k m : Nat) (last : Option Int) (H : Value → Sem PySem.Fin) (K : Flow → Sem PySem.Fin) (pp : Pos) (s₀ s : Shared) (It : Addr) (mC : Str → Option Value) (lv : Value) (oI : Obj),
      rs.drop k = rem → outs.drop (3 - m) = told (m + 1) last rem → m ≤ 3 → 3 - m ≤ outs.length → Fr g C s.heap mC → News g C s.heap ((It, oI) :: restOf s₀.heap bs) → s.heap.IsListIter It lr k → It ∉ bs → (∃ h tk, s = { s₀ with heap := h, toks := tk }) → K .next = .pure (.done (.ret .none)) → K (.ret .none) = .pure (.done (.ret .none)) → (last = none → rem.head? = some 0 → False) → (∀ q ∈ [(Str.ofString "grouping", Value.ref lr), (Str.ofString "last_interval", lv)], mC q.1 = some q.2) →
      (match last with | none => lv = .none | some v => ∃ t, lv = .int v t) →
      Seg (model prog w) A (RT g bs outs bad) (YT g C bs outs) (m + 1) s₀ (.forLoop (.Name x px) (.ref It) lb [] (envOf ql sc C 21 cd)) ((model prog w).den (.forLoop (.Name x px) (.ref It) lb [] (envOf ql sc C 21 cd))) [loopFrame (envOf ql sc C 21 cd) K H id id (.func bd (envOf ql sc C 21 cd)) pp] s := by
  obtain ⟨q1, q2, q3, q4⟩ := pick_use4 hpk (by with_unfolding_all rfl)
  subst q1 q2 q3 q4
  obtain ⟨q1, q2, q3, q4⟩ := pick_use4 hfb (by with_unfolding_all rfl)
  subst q1 q2 q3 q4
  obtain ⟨q1, q2, q3, q4⟩ := pick_use4 hwb (by with_unfolding_all rfl)
  subst q1 q2 q3 q4
  intro rem
  induction rem with
  | nil =>
    intro k m last H K pp s₀ s It mC lv oI hk hout hm hol F N hit hIb hS hK1 hK2 hbd hnm hlast
    refine seg_forTurn ?_
    have hkl : vs[k]? = none := by
      have h4 := List.drop_eq_nil_iff.mp hk
      rw [List.getElem?_eq_none_iff, hi.length]; exact h4
    refine wpAny_pyNext_list_end h1 hit (hl.at fun o e => F.keep _ o e) (by simpa using hkl) fun h' hext => ?_
    (try (with_reducible apply Hid.use; with_reducible assumption)); (try dsimp only)
    refine seg_block0 (seg_leaf (.ok .next) ?_)
    show Seg _ _ _ _ _ _ _ (K .next) [] _
    rw [hK1]
    refine seg_end (.ok (.ret .none)) (.inl ⟨rfl, ?_, fun b o e => hext b o (fun z => by have := (N _ (.head _)).2.2; rw [← z, e] at this; cases this) (F.keep b o e), fun q hq => hext q.1 q.2 (fun e => hIb (e ▸ (mem_restOf.mp hq).1)) (N q (.tail _ hq)).1, ?_⟩)
    · obtain ⟨hh, tk, rfl⟩ := hS
      exact ⟨_, _, rfl⟩
    · have := List.drop_eq_nil_iff.mp hout
      omega
  | cons r rem ih =>
    intro k m last H K pp s₀ s It mC lv oI hk hout hm hol F N hit hIb hS hK1 hK2 hbd hnm hlast
    have hx : rs[k]? = some r := by
      have := congrArg (·[0]?) hk
      simpa using this
    obtain ⟨t, hxv⟩ : ∃ t, vs[k]? = some (.int r t) := by
      have hkl : k < vs.length := by rw [hi.length]; exact (List.getElem?_eq_some_iff.mp hx).1
      obtain ⟨n', t, e, hn⟩ := hi.at k _ (List.getElem?_eq_getElem hkl)
      rw [hx] at hn; cases hn
      exact ⟨t, by rw [List.getElem?_eq_getElem hkl, e]⟩
    refine seg_forTurn ?_
    refine wpAny_pyNext_list_item hit (hl.at fun o e => F.keep _ o e) (by simpa using hxv) fun h' hit' hsb => ?_
    (try (with_reducible apply Hid.use; with_reducible assumption)); (try dsimp only)
    (refine wp_weak (d := 700) (u := 400) (by assumption) (Nat.le_trans (Nat.add_le_add (Nat.add_le_add (by assumption) (Nat.le_of_ble_eq_true (m := 50) rfl)) (Nat.le_of_ble_eq_true (m := 50) rfl)) (Nat.le_refl _)) (Nat.le_trans (Nat.add_le_add (Nat.add_le_add (by assumption) (Nat.le_of_ble_eq_true (m := 50) rfl)) (Nat.le_of_ble_eq_true (m := 50) rfl)) (Nat.le_refl _)) ?_)
    have hCI : C ≠ It := Ne.symm (N _ (.head _)).2.1
    have F2 : Fr g C h' mC := ⟨F.ns.sameBut hsb hCI, fun b o e => hsb.extBut b o (fun z => by have := (N _ (.head _)).2.2; rw [← z, e] at this; cases this) (F.keep b o e), F.above⟩
    obtain ⟨oI2, ho2, hc2, hd2⟩ := id hit'
    have N2 : News g C h' ((It, oI2) :: restOf s₀.heap bs) := fun q hq => by
      rcases List.mem_cons.mp hq with rfl | hq
      · exact ⟨ho2, (N _ (.head _)).2⟩
      · have z := N q (.tail _ hq)
        exact ⟨(hsb.2 q.1 (fun e => hIb (e ▸ (mem_restOf.mp hq).1))).trans z.1, z.2⟩
    replace F2 := frNames' _ F2 hnm
    clear F N
    ((try ((with_reducible show wpAny _ _ (execs _ _) _ _ _); (fail_if_success (with_reducible show wpAny _ _ _ Qh _ _)); refine hideQ ?_; intro Qh hQh)); repeat' ((fail_if_success (with_reducible show wpAny _ _ (exec (PySem.Stmt.Assign _ (PySem.Expr.ListComp _ _ _ _) _) _) _ _ _)); (fail_if_success (with_reducible show wpAny _ _ (exec (PySem.Stmt.For _ _ _ _ _) _) _ _ _)); (fail_if_success (with_reducible show wpAny _ _ (eval (PySem.Expr.ListComp _ _ _ _) _) _ _ _)); (first | walk1 | (dsimp only; walk1) | (with_reducible apply Hid.use; with_reducible assumption))))
    rename Fr _ _ _ _ => F3
    rename News _ _ _ _ => N3
    refine seg_execs_cons (seg_If ?_)
    (refine wp_weak (d := 700) (u := 400) (by assumption) (Nat.le_trans (Nat.add_le_add (Nat.add_le_add (by assumption) (Nat.le_of_ble_eq_true (m := 50) rfl)) (Nat.le_of_ble_eq_true (m := 50) rfl)) (Nat.le_refl _)) (Nat.le_trans (Nat.add_le_add (Nat.add_le_add (by assumption) (Nat.le_of_ble_eq_true (m := 50) rfl)) (Nat.le_of_ble_eq_true (m := 50) rfl)) (Nat.le_refl _)) ?_)
    ((try ((with_reducible show wpAny _ _ (execs _ _) _ _ _); (fail_if_success (with_reducible show wpAny _ _ _ Qh _ _)); refine hideQ ?_; intro Qh hQh)); repeat' ((fail_if_success (with_reducible show wpAny _ _ (exec (PySem.Stmt.Assign _ (PySem.Expr.ListComp _ _ _ _) _) _) _ _ _)); (fail_if_success (with_reducible show wpAny _ _ (exec (PySem.Stmt.For _ _ _ _ _) _) _ _ _)); (fail_if_success (with_reducible show wpAny _ _ (eval (PySem.Expr.ListComp _ _ _ _) _) _ _ _)); (first | walk1 | (dsimp only; walk1) | (with_reducible apply Hid.use; with_reducible assumption))))
    split
    · rename (_ = true) => q127
      have hr127 : r = 127 := by simpa using q127
      refine seg_execs_cons (seg_plain ?_)
      (refine wp_weak (d := 700) (u := 400) (by assumption) (Nat.le_trans (Nat.add_le_add (Nat.add_le_add (by assumption) (Nat.le_of_ble_eq_true (m := 50) rfl)) (Nat.le_of_ble_eq_true (m := 50) rfl)) (Nat.le_refl _)) (Nat.le_trans (Nat.add_le_add (Nat.add_le_add (by assumption) (Nat.le_of_ble_eq_true (m := 50) rfl)) (Nat.le_of_ble_eq_true (m := 50) rfl)) (Nat.le_refl _)) ?_)
      ((try ((with_reducible show wpAny _ _ (execs _ _) _ _ _); (fail_if_success (with_reducible show wpAny _ _ _ Qh _ _)); refine hideQ ?_; intro Qh hQh)); repeat' ((fail_if_success (with_reducible show wpAny _ _ (exec (PySem.Stmt.Assign _ (PySem.Expr.ListComp _ _ _ _) _) _) _ _ _)); (fail_if_success (with_reducible show wpAny _ _ (exec (PySem.Stmt.For _ _ _ _ _) _) _ _ _)); (fail_if_success (with_reducible show wpAny _ _ (eval (PySem.Expr.ListComp _ _ _ _) _) _ _ _)); (first | walk1 | (dsimp only; walk1) | (with_reducible apply Hid.use; with_reducible assumption))))
      rename Fr _ _ _ _ => F4
      rename News _ _ _ _ => N4
      refine seg_leaf (.ok (.ret .none)) ?_
      show Seg _ _ _ _ _ _ _ (K (.ret .none)) [] _
      rw [hK2]
      refine seg_end (.ok (.ret .none)) (.inl ⟨rfl, ?_, F4.keep, fun q hq => (N4 q (.tail _ hq)).1, ?_⟩)
      · obtain ⟨hh, tk, rfl⟩ := hS
        exact ⟨_, _, rfl⟩
      · have hto : told (m + 1) last (r :: rem) = [] := by
          show (if r = 127 then _ else _) = _
          rw [if_pos hr127]
        rw [hto] at hout
        have := List.drop_eq_nil_iff.mp hout
        omega
    · rename (¬ _ = true) => q127
      have hr127 : r ≠ 127 := by simpa using q127
      (try (with_reducible apply Hid.use; with_reducible assumption)); (try dsimp only)
      refine seg_execs_nil (K := fun f => match f with | .next => Sem.wrap _ _ _ _ (execs _ _) | f => _) ?_
      (try (with_reducible apply Hid.use; with_reducible assumption)); (try dsimp only)
      refine seg_execs_cons (seg_If ?_)
      (refine wp_weak (d := 700) (u := 400) (by assumption) (Nat.le_trans (Nat.add_le_add (Nat.add_le_add (by assumption) (Nat.le_of_ble_eq_true (m := 50) rfl)) (Nat.le_of_ble_eq_true (m := 50) rfl)) (Nat.le_refl _)) (Nat.le_trans (Nat.add_le_add (Nat.add_le_add (by assumption) (Nat.le_of_ble_eq_true (m := 50) rfl)) (Nat.le_of_ble_eq_true (m := 50) rfl)) (Nat.le_refl _)) ?_)
      ((try ((with_reducible show wpAny _ _ (execs _ _) _ _ _); (fail_if_success (with_reducible show wpAny _ _ _ Qh _ _)); refine hideQ ?_; intro Qh hQh)); repeat' ((fail_if_success (with_reducible show wpAny _ _ (exec (PySem.Stmt.Assign _ (PySem.Expr.ListComp _ _ _ _) _) _) _ _ _)); (fail_if_success (with_reducible show wpAny _ _ (exec (PySem.Stmt.For _ _ _ _ _) _) _ _ _)); (fail_if_success (with_reducible show wpAny _ _ (eval (PySem.Expr.ListComp _ _ _ _) _) _ _ _)); (first | walk1 | (dsimp only; walk1) | (with_reducible apply Hid.use; with_reducible assumption))))
      split
      · rename (_ = true) => q0
        have hr0 : r = 0 := by simpa using q0
        have hto : told (m + 1) last (r :: rem) = (match last with | none => [] | some v => List.replicate (m + 1) v) := by
          show (if r = 127 then _ else if r = 0 then _ else _) = _
          rw [if_neg hr127, if_pos hr0]
          cases last <;> rfl
        rw [hto] at hout
        refine seg_execs_cons (seg_If ?_)
        cases last with
        | some v =>
          obtain ⟨tv, rfl⟩ := hlast
          (refine wp_weak (d := 700) (u := 400) (by assumption) (Nat.le_trans (Nat.add_le_add (Nat.add_le_add (by assumption) (Nat.le_of_ble_eq_true (m := 50) rfl)) (Nat.le_of_ble_eq_true (m := 50) rfl)) (Nat.le_refl _)) (Nat.le_trans (Nat.add_le_add (Nat.add_le_add (by assumption) (Nat.le_of_ble_eq_true (m := 50) rfl)) (Nat.le_of_ble_eq_true (m := 50) rfl)) (Nat.le_refl _)) ?_)
          ((try ((with_reducible show wpAny _ _ (execs _ _) _ _ _); (fail_if_success (with_reducible show wpAny _ _ _ Qh _ _)); refine hideQ ?_; intro Qh hQh)); repeat' ((fail_if_success (with_reducible show wpAny _ _ (exec (PySem.Stmt.Assign _ (PySem.Expr.ListComp _ _ _ _) _) _) _ _ _)); (fail_if_success (with_reducible show wpAny _ _ (exec (PySem.Stmt.For _ _ _ _ _) _) _ _ _)); (fail_if_success (with_reducible show wpAny _ _ (eval (PySem.Expr.ListComp _ _ _ _) _) _ _ _)); (first | walk1 | (dsimp only; walk1) | (with_reducible apply Hid.use; with_reducible assumption))))
          rename Fr _ _ _ _ => F4
          rename News _ _ _ _ => N4
          split
          · rename (_ = true) => q5
            exact absurd q5 (by decide)
          (try (with_reducible apply Hid.use; with_reducible assumption)); (try dsimp only)
          refine seg_execs_nil (K := fun f => match f with | .next => Sem.wrap _ _ _ _ (execs _ _) | f => _) ?_
          (try (with_reducible apply Hid.use; with_reducible assumption)); (try dsimp only)
          refine seg_execs_cons (seg_While fun p2 => ?_)
          refine gen_while (A := A) hpk hfb hwb ?f1 ?f2 ?a1 ?a2 ?a3 X T hbs m s₀ _ It _ v tv oI2 hout hm F4 N4 hIb ?_ ?_
          case f1 => rfl
          case f2 => rfl
          case a1 => exact h1
          case a2 => exact (Nat.le_trans (Nat.add_le_add (Nat.add_le_add h2 (Nat.le_of_ble_eq_true (m := 50) rfl)) (Nat.le_of_ble_eq_true (m := 50) rfl)) (Nat.le_refl _))
          case a3 => exact (Nat.le_trans (Nat.add_le_add (Nat.add_le_add h3 (Nat.le_of_ble_eq_true (m := 50) rfl)) (Nat.le_of_ble_eq_true (m := 50) rfl)) (Nat.le_refl _))
          · obtain ⟨hh, tk, rfl⟩ := hS
            exact ⟨_, _, rfl⟩
          · intro q hq
            rcases List.mem_singleton.mp hq with rfl
            rfl
        | none => exact (hbd rfl (by rw [hr0]; rfl)).elim
      · rename (¬ _ = true) => q0
        have hr0 : r ≠ 0 := by simpa using q0
        (try (with_reducible apply Hid.use; with_reducible assumption)); (try dsimp only)
        refine seg_execs_nil (K := fun f => match f with | .next => Sem.wrap _ _ _ _ (execs _ _) | f => _) ?_
        (try (with_reducible apply Hid.use; with_reducible assumption)); (try dsimp only)
        refine seg_execs_cons (seg_Expr_Yield (by rfl) (by rfl) (by rfl) ?_)
        (refine wp_weak (d := 700) (u := 400) (by assumption) (Nat.le_trans (Nat.add_le_add (Nat.add_le_add (by assumption) (Nat.le_of_ble_eq_true (m := 50) rfl)) (Nat.le_of_ble_eq_true (m := 50) rfl)) (Nat.le_refl _)) (Nat.le_trans (Nat.add_le_add (Nat.add_le_add (by assumption) (Nat.le_of_ble_eq_true (m := 50) rfl)) (Nat.le_of_ble_eq_true (m := 50) rfl)) (Nat.le_refl _)) ?_)
        ((try ((with_reducible show wpAny _ _ (execs _ _) _ _ _); (fail_if_success (with_reducible show wpAny _ _ _ Qh _ _)); refine hideQ ?_; intro Qh hQh)); repeat' ((fail_if_success (with_reducible show wpAny _ _ (exec (PySem.Stmt.Assign _ (PySem.Expr.ListComp _ _ _ _) _) _) _ _ _)); (fail_if_success (with_reducible show wpAny _ _ (exec (PySem.Stmt.For _ _ _ _ _) _) _ _ _)); (fail_if_success (with_reducible show wpAny _ _ (eval (PySem.Expr.ListComp _ _ _ _) _) _ _ _)); (first | walk1 | (dsimp only; walk1) | (with_reducible apply Hid.use; with_reducible assumption))))
        rename Fr _ _ _ _ => F4
        rename News _ _ _ _ => N4
        rename (∀ (_ : Value) (_ : Shared), _ → _) => hkap
        obtain ⟨oC, esC, epC, hoC, hrC⟩ := F4.ns
        have habove := F4.above
        have hnI := (N4 _ (.head _)).2
        have hto : told (m + 1) last (r :: rem) = r :: told m (some r) rem := by
          show (if r = 127 then _ else if r = 0 then _ else _) = _
          rw [if_neg hr127, if_neg hr0]
        rw [hto] at hout
        have ho0 : outs[3 - m]? = some r := by
          have := congrArg (·[0]?) hout
          simpa using this
        refine ⟨It, oI2, oC, r, t, ?eqS, rfl, hm, ho0, F4.keep, fun q hq => (N4 q (.tail _ hq)).1, hnI.2, hnI.1, hoC, (N4 _ (.head _)).1, hIb, fun hm0 s'' hst hCo hIo => hkap .none s'' ?kap⟩
        case eqS =>
          obtain ⟨hh, tk, rfl⟩ := hS
          exact ⟨_, _, rfl⟩
        case kap =>
          obtain ⟨m', rfl⟩ : ∃ m', m = m' + 1 := ⟨m - 1, by omega⟩
          have F5 : Fr g C s''.heap _ := ⟨⟨oC, esC, epC, hCo, hrC⟩, hst, habove⟩
          have N5 : News g C s''.heap ((It, oI2) :: restOf s''.heap bs) := fun q hq => by
            rcases List.mem_cons.mp hq with rfl | hq
            · exact ⟨hIo, hnI⟩
            · obtain ⟨z1, z2⟩ := mem_restOf.mp hq
              exact ⟨z2, (hbs _ z1).2, (hbs _ z1).1⟩
          clear F4 N4
          (try (with_reducible apply Hid.use; with_reducible assumption)); (try dsimp only)
          refine seg_execs_cons (seg_plain ?_)
          (refine wp_weak (d := 700) (u := 400) (by assumption) (Nat.le_trans (Nat.add_le_add (Nat.add_le_add (by assumption) (Nat.le_of_ble_eq_true (m := 50) rfl)) (Nat.le_of_ble_eq_true (m := 50) rfl)) (Nat.le_refl _)) (Nat.le_trans (Nat.add_le_add (Nat.add_le_add (by assumption) (Nat.le_of_ble_eq_true (m := 50) rfl)) (Nat.le_of_ble_eq_true (m := 50) rfl)) (Nat.le_refl _)) ?_)
          ((try ((with_reducible show wpAny _ _ (execs _ _) _ _ _); (fail_if_success (with_reducible show wpAny _ _ _ Qh _ _)); refine hideQ ?_; intro Qh hQh)); repeat' ((fail_if_success (with_reducible show wpAny _ _ (exec (PySem.Stmt.Assign _ (PySem.Expr.ListComp _ _ _ _) _) _) _ _ _)); (fail_if_success (with_reducible show wpAny _ _ (exec (PySem.Stmt.For _ _ _ _ _) _) _ _ _)); (fail_if_success (with_reducible show wpAny _ _ (eval (PySem.Expr.ListComp _ _ _ _) _) _ _ _)); (first | walk1 | (dsimp only; walk1) | (with_reducible apply Hid.use; with_reducible assumption))))
          rename Fr _ _ _ _ => F6
          rename News _ _ _ _ => N6
          (try (with_reducible apply Hid.use; with_reducible assumption)); (try dsimp only)
          refine seg_execs_nil (K := fun f => match f with | .next => .pure (.again _) | .cont => .pure (.again _) | .brk => .pure (.done .next) | .ret v => .pure (.done (.ret v))) ?_
          (try (with_reducible apply Hid.use; with_reducible assumption)); (try dsimp only)
          refine seg_again rfl ?_
          have hlt := (List.getElem?_eq_some_iff.mp ho0).1
          have hd3 : 3 - m' = (3 - (m' + 1)) + 1 := by omega
          refine ih (k + 1) m' (some r) H K pp s'' _ It _ (.int r t) oI2 ?_ ?_ (by omega) (by omega) F6 N6 ⟨oI2, (N6 _ (.head _)).1, hc2, hd2⟩ hIb ⟨_, _, rfl⟩ hK1 hK2 (fun e => by cases e) ?_ ⟨t, rfl⟩
          · rw [← List.drop_drop, hk]; rfl
          · rw [hd3, ← List.drop_drop, hout]; rfl
          · intro q hq
            simp only [List.mem_cons, List.not_mem_nil, or_false] at hq
            rcases hq with rfl | rfl
            · rfl
            · rfl
theorem gen_start {prog : Program} {w : World} {A : Around} {p : Program} {loose : List Str} {mg mb : Str → Option Value} {g : Heap} {C lr : Addr} {ql : Str} {bd : List Stmt} {sc : Scope} {cd : Value} {vs : List Value} {rs outs : List Int} {bs : List Addr} {bad : Bool} {s : Shared} {mC : Str → Option Value}
    (hpk : fnAt (hd.heap_1 w.params) 21 = some (ql, bd, sc, cd)) (h1 : A.handled = none) (h2 : A.depth ≤ 600) (h3 : A.units ≤ 300)
    (X : (hd.heap_1 w.params).In g) (T : TopRead p loose mg mb g) (hl : g.IsList lr vs.toArray) (hi : IntsAre vs rs) (hbs : ∀ b ∈ bs, g.get? b = none ∧ b ≠ C)
    (hout : outs = told 4 none rs) (hr0 : rs.head? ≠ some 0) (F : Fr g C s.heap mC) (N : News g C s.heap (restOf s.heap bs)) (hbo : ∀ b ∈ bs, ∃ o, s.heap.get? b = some o)
    (hnm : ∀ q ∈ [(Str.ofString "grouping", Value.ref lr)], mC q.1 = some q.2) :
    Seg (model prog w) A (RT g bs outs bad) (YT g C bs outs) 4 s (.func bd (envOf ql sc C 21 cd)) ((model prog w).den (.func bd (envOf ql sc C 21 cd))) [] s := by
  have hpk2 := hpk
  obtain ⟨q1, q2, q3, q4⟩ := pick_use4 hpk (by with_unfolding_all rfl)
  subst q1 q2 q3 q4
  replace F := frNames' _ F hnm
  refine seg_func (seg_execs_cons (seg_plain ?_))
  (refine wp_weak (d := 700) (u := 400) (by assumption) (Nat.le_trans (Nat.add_le_add (Nat.add_le_add (by assumption) (Nat.le_of_ble_eq_true (m := 50) rfl)) (Nat.le_of_ble_eq_true (m := 50) rfl)) (Nat.le_refl _)) (Nat.le_trans (Nat.add_le_add (Nat.add_le_add (by assumption) (Nat.le_of_ble_eq_true (m := 50) rfl)) (Nat.le_of_ble_eq_true (m := 50) rfl)) (Nat.le_refl _)) ?_)
  ((try ((with_reducible show wpAny _ _ (execs _ _) _ _ _); (fail_if_success (with_reducible show wpAny _ _ _ Qh _ _)); refine hideQ ?_; intro Qh hQh)); repeat' ((fail_if_success (with_reducible show wpAny _ _ (exec (PySem.Stmt.Assign _ (PySem.Expr.ListComp _ _ _ _) _) _) _ _ _)); (fail_if_success (with_reducible show wpAny _ _ (exec (PySem.Stmt.For _ _ _ _ _) _) _ _ _)); (fail_if_success (with_reducible show wpAny _ _ (eval (PySem.Expr.ListComp _ _ _ _) _) _ _ _)); (first | walk1 | (dsimp only; walk1) | (with_reducible apply Hid.use; with_reducible assumption))))
  (try (with_reducible apply Hid.use; with_reducible assumption)); (try dsimp only)
  rename Fr _ _ _ _ => F2
  rename News _ _ _ _ => N2
  refine seg_execs_cons (seg_For ?_)
  (refine wp_weak (d := 700) (u := 400) (by assumption) (Nat.le_trans (Nat.add_le_add (Nat.add_le_add (by assumption) (Nat.le_of_ble_eq_true (m := 50) rfl)) (Nat.le_of_ble_eq_true (m := 50) rfl)) (Nat.le_refl _)) (Nat.le_trans (Nat.add_le_add (Nat.add_le_add (by assumption) (Nat.le_of_ble_eq_true (m := 50) rfl)) (Nat.le_of_ble_eq_true (m := 50) rfl)) (Nat.le_refl _)) ?_)
  ((try ((with_reducible show wpAny _ _ (execs _ _) _ _ _); (fail_if_success (with_reducible show wpAny _ _ _ Qh _ _)); refine hideQ ?_; intro Qh hQh)); repeat' ((fail_if_success (with_reducible show wpAny _ _ (exec (PySem.Stmt.Assign _ (PySem.Expr.ListComp _ _ _ _) _) _) _ _ _)); (fail_if_success (with_reducible show wpAny _ _ (exec (PySem.Stmt.For _ _ _ _ _) _) _ _ _)); (fail_if_success (with_reducible show wpAny _ _ (eval (PySem.Expr.ListComp _ _ _ _) _) _ _ _)); (first | walk1 | (dsimp only; walk1) | (with_reducible apply Hid.use; with_reducible assumption))))
  rename Fr _ _ _ _ => F3
  rename News _ _ _ _ => N3
  refine wpAny_pyIter_list (hl.at fun o e => F3.keep _ o e) ?_
  (try (with_reducible apply Hid.use; with_reducible assumption)); (try dsimp only)
  intro p2
  refine' gen_loop hpk2 ?hfb ?hwb h1 h2 h3 X T hl hi hbs rs 0 3 none _ _ p2 s _ _ _ .none _ rfl ?o1 (Nat.le_refl 3) (Nat.zero_le _) (F3.push _) (N3.push F3 _) ⟨_, Heap.get?_push_size _ rfl, rfl, rfl⟩ ?o2 ⟨_, _, rfl⟩ ?o3 ?o4 ?o5 ?o6 rfl
  case hfb => with_unfolding_all rfl
  case hwb => with_unfolding_all rfl
  case o1 => rw [hout]; rfl
  case o2 =>
    intro hm
    obtain ⟨o, ho⟩ := hbo _ hm
    have z := (N3 (_, o) ((mem_restOf (p := (_, o))).mpr ⟨hm, ho⟩)).1
    exact Nat.lt_irrefl _ (Heap.lt_size z)
  case o3 => rfl
  case o4 => rfl
  case o5 => exact fun _ e => hr0 e
  case o6 =>
    intro q hq
    simp only [List.mem_cons, List.not_mem_nil, or_false] at hq
    rcases hq with rfl | rfl
    · rfl
    · rfl

end
/-! C_bad -/
section
/-- the error that leaves the generator whose ruler begins with 0 -/
noncomputable def PB (base : Heap) (outer : List Env) (ks : List (Addr × Obj)) : Nat → Shared → Value → Shared → Prop := fun _ s₀ v s₁ => ∃ e, v = .ref e ∧ (∃ h tk, s₁ = { s₀ with heap := h, toks := tk }) ∧ Flight base outer e .none ks s₁.heap
/-- how it ends -/
noncomputable def RB (base : Heap) (outer : List Env) (ks : List (Addr × Obj)) : GenEnd := fun n s₀ r s₁ => (r = .ok (.ret .none) ∧ (fun _ _ _ => False : Nat → Shared → Shared → Prop) n s₀ s₁) ∨ ∃ e, r = .error e ∧ PB base outer ks n s₀ e s₁
theorem gen_bad {prog : Program} {w : World} {A : Around} {p : Program} {loose : List Str} {mg mb : Str → Option Value} {base bb : Heap} {outer : List Env} {C lr : Addr} {ql : Str} {bd lb : List Stmt} {x : Str} {px pf : Pos} {sc : Scope} {cd : Value} {vs : List Value} {rs : List Int} {ks kf : List (Addr × Obj)} {s : Shared} {mC : Str → Option Value} {Y : Protocol} {n : Nat}
    (hpk : fnAt (hd.heap_1 w.params) 21 = some (ql, bd, sc, cd)) (hfb : forAt bd = some (x, px, lb, pf)) (h1 : A.handled = none) (h2 : A.depth ≤ 600) (h3 : A.units ≤ 300) (hfr : A.frames = some outer)
    (X : (hd.heap_1 w.params).In base) (T : TopRead p loose mg mb base) (hl : base.IsList lr vs.toArray) (hi : IntsAre vs rs) (hr0 : rs.head? = some 0)
    (F : Fr base C s.heap mC) (N : News base C s.heap ks) (hks : ∀ q ∈ kf, ∀ vs, q.2.data ≠ .fields vs) (hkf : ∀ q ∈ kf, q ∈ ks) (hbb : ∀ h', base.StaysIn h' → News base C h' ks → bb.StaysIn h' ∧ h'.FunFrames bb outer) (hbC : bb.get? C = none)
    (hnm : ∀ q ∈ [(Str.ofString "grouping", Value.ref lr)], mC q.1 = some q.2) :
    Seg (model prog w) A (RB bb outer kf) Y n s (.func bd (envOf ql sc C 21 cd)) ((model prog w).den (.func bd (envOf ql sc C 21 cd))) [] s := by
  obtain ⟨q1, q2, q3, q4⟩ := pick_use4 hpk (by with_unfolding_all rfl)
  subst q1 q2 q3 q4
  obtain ⟨q1, q2, q3, q4⟩ := pick_use4 hfb (by with_unfolding_all rfl)
  subst q1 q2 q3 q4
  replace F := frNames' _ F hnm
  have hkp : True → ∃ h tk, s = { s with heap := h, toks := tk } := fun _ => ⟨_, _, rfl⟩
  refine seg_func (seg_execs_cons (seg_plain ?_))
  (refine wp_weak (d := 700) (u := 400) (by assumption) (Nat.le_trans (Nat.add_le_add (Nat.add_le_add (by assumption) (Nat.le_of_ble_eq_true (m := 50) rfl)) (Nat.le_of_ble_eq_true (m := 50) rfl)) (Nat.le_refl _)) (Nat.le_trans (Nat.add_le_add (Nat.add_le_add (by assumption) (Nat.le_of_ble_eq_true (m := 50) rfl)) (Nat.le_of_ble_eq_true (m := 50) rfl)) (Nat.le_refl _)) ?_)
  ((try ((with_reducible show wpAny _ _ (execs _ _) _ _ _); (fail_if_success (with_reducible show wpAny _ _ _ Qh _ _)); refine hideQ ?_; intro Qh hQh)); repeat' ((fail_if_success (with_reducible show wpAny _ _ (exec (PySem.Stmt.Assign _ (PySem.Expr.ListComp _ _ _ _) _) _) _ _ _)); (fail_if_success (with_reducible show wpAny _ _ (exec (PySem.Stmt.For _ _ _ _ _) _) _ _ _)); (fail_if_success (with_reducible show wpAny _ _ (eval (PySem.Expr.ListComp _ _ _ _) _) _ _ _)); (first | walk1 | (dsimp only; walk1) | (with_reducible apply Hid.use; with_reducible assumption))))
  (try (with_reducible apply Hid.use; with_reducible assumption)); (try dsimp only)
  rename Fr _ _ _ _ => F2
  rename News _ _ _ _ => N2
  refine seg_execs_cons (seg_For ?_)
  (refine wp_weak (d := 700) (u := 400) (by assumption) (Nat.le_trans (Nat.add_le_add (Nat.add_le_add (by assumption) (Nat.le_of_ble_eq_true (m := 50) rfl)) (Nat.le_of_ble_eq_true (m := 50) rfl)) (Nat.le_refl _)) (Nat.le_trans (Nat.add_le_add (Nat.add_le_add (by assumption) (Nat.le_of_ble_eq_true (m := 50) rfl)) (Nat.le_of_ble_eq_true (m := 50) rfl)) (Nat.le_refl _)) ?_)
  ((try ((with_reducible show wpAny _ _ (execs _ _) _ _ _); (fail_if_success (with_reducible show wpAny _ _ _ Qh _ _)); refine hideQ ?_; intro Qh hQh)); repeat' ((fail_if_success (with_reducible show wpAny _ _ (exec (PySem.Stmt.Assign _ (PySem.Expr.ListComp _ _ _ _) _) _) _ _ _)); (fail_if_success (with_reducible show wpAny _ _ (exec (PySem.Stmt.For _ _ _ _ _) _) _ _ _)); (fail_if_success (with_reducible show wpAny _ _ (eval (PySem.Expr.ListComp _ _ _ _) _) _ _ _)); (first | walk1 | (dsimp only; walk1) | (with_reducible apply Hid.use; with_reducible assumption))))
  rename Fr _ _ _ _ => F3
  rename News _ _ _ _ => N3
  refine wpAny_pyIter_list (hl.at fun o e => F3.keep _ o e) ?_
  (try (with_reducible apply Hid.use; with_reducible assumption)); (try dsimp only)
  intro p2
  refine seg_forTurn ?_
  obtain ⟨t, hxv⟩ : ∃ t, vs[0]? = some (.int 0 t) := by
    have hx : rs[0]? = some 0 := by cases rs with
      | nil => cases hr0
      | cons a r => simpa using hr0
    have hkl : 0 < vs.length := by rw [hi.length]; exact (List.getElem?_eq_some_iff.mp hx).1
    obtain ⟨n', t, e, hn⟩ := hi.at 0 _ (List.getElem?_eq_getElem hkl)
    rw [hx] at hn; cases hn
    exact ⟨t, by rw [List.getElem?_eq_getElem hkl, e]⟩
  have F4 := F3.push { cls := .type "list_iterator", data := .fields #[.ref lr, .int 0 0] }
  have N4 := N3.push F3 { cls := .type "list_iterator", data := .fields #[.ref lr, .int 0 0] }
  refine wpAny_pyNext_list_item ⟨_, Heap.get?_push_size _ rfl, rfl, rfl⟩ ((hl.at fun o e => F3.keep _ o e).push _) (by simpa using hxv) fun h' hit' hsb => ?_
  dsimp only at F4 N4 hsb
  have hCI := (N4 _ (.head _)).2.1
  have F5 : Fr base C h' _ := ⟨F4.ns.sameBut hsb (Ne.symm hCI), fun b o e => hsb.extBut b o (fun z => by have := (N4 _ (.head _)).2.2; rw [← z, e] at this; cases this) (F4.keep b o e), F4.above⟩
  obtain ⟨oI2, ho2, hc2, hd2⟩ := id hit'
  have hIk : ∀ q ∈ ks, q.1 ≠ _ := fun q hq e => by
    have z := (N3 q hq).1
    have z2 := Heap.lt_size z
    rw [e] at z2
    exact Nat.lt_irrefl _ z2
  have N5 : News base C h' ((_, oI2) :: ks) := fun q hq => by
    rcases List.mem_cons.mp hq with rfl | hq
    · exact ⟨ho2, (N4 _ (.head _)).2⟩
    · have z := N4 q (.tail _ hq)
      exact ⟨(hsb.2 q.1 (hIk q hq)).trans z.1, z.2⟩
  clear F3 F4 N3 N4
  (try (with_reducible apply Hid.use; with_reducible assumption)); (try dsimp only)
  (refine wp_weak (d := 700) (u := 400) (by assumption) (Nat.le_trans (Nat.add_le_add (Nat.add_le_add (by assumption) (Nat.le_of_ble_eq_true (m := 50) rfl)) (Nat.le_of_ble_eq_true (m := 50) rfl)) (Nat.le_refl _)) (Nat.le_trans (Nat.add_le_add (Nat.add_le_add (by assumption) (Nat.le_of_ble_eq_true (m := 50) rfl)) (Nat.le_of_ble_eq_true (m := 50) rfl)) (Nat.le_refl _)) ?_)
  ((try ((with_reducible show wpAny _ _ (execs _ _) _ _ _); (fail_if_success (with_reducible show wpAny _ _ _ Qh _ _)); refine hideQ ?_; intro Qh hQh)); repeat' ((fail_if_success (with_reducible show wpAny _ _ (exec (PySem.Stmt.Assign _ (PySem.Expr.ListComp _ _ _ _) _) _) _ _ _)); (fail_if_success (with_reducible show wpAny _ _ (exec (PySem.Stmt.For _ _ _ _ _) _) _ _ _)); (fail_if_success (with_reducible show wpAny _ _ (eval (PySem.Expr.ListComp _ _ _ _) _) _ _ _)); (first | walk1 | (dsimp only; walk1) | (with_reducible apply Hid.use; with_reducible assumption))))
  rename Fr _ _ _ _ => F3
  rename News _ _ _ _ => N3
  refine seg_execs_cons (seg_If ?_)
  (refine wp_weak (d := 700) (u := 400) (by assumption) (Nat.le_trans (Nat.add_le_add (Nat.add_le_add (by assumption) (Nat.le_of_ble_eq_true (m := 50) rfl)) (Nat.le_of_ble_eq_true (m := 50) rfl)) (Nat.le_refl _)) (Nat.le_trans (Nat.add_le_add (Nat.add_le_add (by assumption) (Nat.le_of_ble_eq_true (m := 50) rfl)) (Nat.le_of_ble_eq_true (m := 50) rfl)) (Nat.le_refl _)) ?_)
  ((try ((with_reducible show wpAny _ _ (execs _ _) _ _ _); (fail_if_success (with_reducible show wpAny _ _ _ Qh _ _)); refine hideQ ?_; intro Qh hQh)); repeat' ((fail_if_success (with_reducible show wpAny _ _ (exec (PySem.Stmt.Assign _ (PySem.Expr.ListComp _ _ _ _) _) _) _ _ _)); (fail_if_success (with_reducible show wpAny _ _ (exec (PySem.Stmt.For _ _ _ _ _) _) _ _ _)); (fail_if_success (with_reducible show wpAny _ _ (eval (PySem.Expr.ListComp _ _ _ _) _) _ _ _)); (first | walk1 | (dsimp only; walk1) | (with_reducible apply Hid.use; with_reducible assumption))))
  split
  · rename (_ = true) => q127
    exact absurd q127 (by decide)
  (try (with_reducible apply Hid.use; with_reducible assumption)); (try dsimp only)
  refine seg_execs_nil (K := fun f => match f with | .next => Sem.wrap _ _ _ _ (execs _ _) | f => _) ?_
  (try (with_reducible apply Hid.use; with_reducible assumption)); (try dsimp only)
  refine seg_execs_cons (seg_If ?_)
  (refine wp_weak (d := 700) (u := 400) (by assumption) (Nat.le_trans (Nat.add_le_add (Nat.add_le_add (by assumption) (Nat.le_of_ble_eq_true (m := 50) rfl)) (Nat.le_of_ble_eq_true (m := 50) rfl)) (Nat.le_refl _)) (Nat.le_trans (Nat.add_le_add (Nat.add_le_add (by assumption) (Nat.le_of_ble_eq_true (m := 50) rfl)) (Nat.le_of_ble_eq_true (m := 50) rfl)) (Nat.le_refl _)) ?_)
  ((try ((with_reducible show wpAny _ _ (execs _ _) _ _ _); (fail_if_success (with_reducible show wpAny _ _ _ Qh _ _)); refine hideQ ?_; intro Qh hQh)); repeat' ((fail_if_success (with_reducible show wpAny _ _ (exec (PySem.Stmt.Assign _ (PySem.Expr.ListComp _ _ _ _) _) _) _ _ _)); (fail_if_success (with_reducible show wpAny _ _ (exec (PySem.Stmt.For _ _ _ _ _) _) _ _ _)); (fail_if_success (with_reducible show wpAny _ _ (eval (PySem.Expr.ListComp _ _ _ _) _) _ _ _)); (first | walk1 | (dsimp only; walk1) | (with_reducible apply Hid.use; with_reducible assumption))))
  split
  rotate_left
  · rename (¬ _ = true) => q0
    exact absurd (by decide) q0
  refine seg_execs_cons (seg_If ?_)
  (refine wp_weak (d := 700) (u := 400) (by assumption) (Nat.le_trans (Nat.add_le_add (Nat.add_le_add (by assumption) (Nat.le_of_ble_eq_true (m := 50) rfl)) (Nat.le_of_ble_eq_true (m := 50) rfl)) (Nat.le_refl _)) (Nat.le_trans (Nat.add_le_add (Nat.add_le_add (by assumption) (Nat.le_of_ble_eq_true (m := 50) rfl)) (Nat.le_of_ble_eq_true (m := 50) rfl)) (Nat.le_refl _)) ?_)
  ((try ((with_reducible show wpAny _ _ (execs _ _) _ _ _); (fail_if_success (with_reducible show wpAny _ _ _ Qh _ _)); refine hideQ ?_; intro Qh hQh)); repeat' ((fail_if_success (with_reducible show wpAny _ _ (exec (PySem.Stmt.Assign _ (PySem.Expr.ListComp _ _ _ _) _) _) _ _ _)); (fail_if_success (with_reducible show wpAny _ _ (exec (PySem.Stmt.For _ _ _ _ _) _) _ _ _)); (fail_if_success (with_reducible show wpAny _ _ (eval (PySem.Expr.ListComp _ _ _ _) _) _ _ _)); (first | walk1 | (dsimp only; walk1) | (with_reducible apply Hid.use; with_reducible assumption))))
  split
  rotate_left
  · rename (¬ _ = true) => q0
    exact absurd (by decide) q0
  refine seg_execs_cons (seg_plain ?_)
  (refine wp_weak (d := 700) (u := 400) (by assumption) (Nat.le_trans (Nat.add_le_add (Nat.add_le_add (by assumption) (Nat.le_of_ble_eq_true (m := 50) rfl)) (Nat.le_of_ble_eq_true (m := 50) rfl)) (Nat.le_refl _)) (Nat.le_trans (Nat.add_le_add (Nat.add_le_add (by assumption) (Nat.le_of_ble_eq_true (m := 50) rfl)) (Nat.le_of_ble_eq_true (m := 50) rfl)) (Nat.le_refl _)) ?_)
  ((try ((with_reducible show wpAny _ _ (execs _ _) _ _ _); (fail_if_success (with_reducible show wpAny _ _ _ Qh _ _)); refine hideQ ?_; intro Qh hQh)); repeat' ((fail_if_success (with_reducible show wpAny _ _ (exec (PySem.Stmt.Assign _ (PySem.Expr.ListComp _ _ _ _) _) _) _ _ _)); (fail_if_success (with_reducible show wpAny _ _ (exec (PySem.Stmt.For _ _ _ _ _) _) _ _ _)); (fail_if_success (with_reducible show wpAny _ _ (eval (PySem.Expr.ListComp _ _ _ _) _) _ _ _)); (first | walk1 | (dsimp only; walk1) | (with_reducible apply Hid.use; with_reducible assumption))))
  rename Fr _ _ _ _ => F6
  rename News _ _ _ _ => N6
  rename Addr => e9
  rename Heap.NewExc _ _ e9 _ => hx
  obtain ⟨ob, tp, he, hcls, hd9⟩ := hx.there
  have F7 := F6.keeps hx.keeps
  have N7 := N6.grown hx.keeps
  have hen := hx.new
  dsimp only at hen he F7 N7
  obtain ⟨hb1, hb2⟩ := hbb _ F7.keep fun q hq => N7 q (.tail _ hq)
  have henb : bb.get? e9 = none := by
    cases hq : bb.get? e9 with
    | none => rfl
    | some o' =>
      have := (hbb _ F6.keep fun q hq => N6 q (.tail _ hq)).1 _ o' hq
      rw [hen] at this; cases this
  have hfr2 : ∀ c fs, pushEnvs (Code.envs c) (pushEnvs (envsOf (fs.map Frame.where_)) (some outer)) = (A.over c fs).frames := fun c fs => by
    show _ = pushEnvs _ (pushEnvs _ A.frames)
    rw [hfr]
  refine seg_wrap ?_
  refine wpAny_bind (note_first (base := bb) (outer := outer) (ks := kf) ((hfr2 _ _).symm.trans rfl) (Heap.FunFrames.cons (fun e => by cases e) rfl F7.ns hbC hb2) rfl he hcls hb1 henb hd9 rfl hks (fun q hq => ⟨q.2.slots, (N7 q (.tail _ (hkf q hq))).1⟩) ?_)
  intro h9 fl
  refine wpAny_theTreesLotGoes ?_
  refine seg_leaf (.error (.ref _)) ?_
  show Seg _ _ _ _ _ _ _ (Sem.wrap _ _ _ _ (Sem.bind _ _)) [] _
  rw [Sem.bind_eq_wrap, Sem.wrap_wrap]
  refine seg_wrap (came_back (s := { s with heap := h9, toks := _ }) fl hks ?_)
  intro h10 fl2
  show Seg _ _ _ _ _ _ _ (Sem.wrap _ _ _ _ (leaving _ _)) [] _
  refine seg_wrap ?_
  unfold leaving
  refine wpAny_bind (note_same (L := C) rfl fl2 ?_)
  refine fly_set (f := none) fl2 hks ?_
  intro h11 fl3
  exact seg_end (.error (.ref _)) (.inr ⟨_, rfl, _, rfl, ⟨_, _, rfl⟩, fl3.tail⟩)

end
/-! C_told -/
section
theorem bare_set {s : Shared} {g : Nat} {gs : GenState} (h : ∀ x ∈ s.gens, x.bare = true) (hb : gs.bare = true) : ∀ x ∈ (s.setGen g gs).gens, x.bare = true := by
  intro x hx
  have hx2 : x ∈ s.gens.setIfInBounds g gs := hx
  rcases Array.mem_or_eq_of_mem_setIfInBounds hx2 with e | e
  · exact h x e
  · rw [e]; exact hb
theorem told_len : ∀ {n : Nat} {last : Option Int} {rs : List Int}, (told n last rs).length ≤ n
  | 0, _, _ => Nat.le_refl _
  | n + 1, _, [] => Nat.zero_le _
  | n + 1, last, x :: r => by
    show (if x = 127 then _ else if x = 0 then _ else _ : List Int).length ≤ _
    split
    · exact Nat.zero_le _
    · split
      · cases last with
        | none => exact Nat.zero_le _
        | some v => exact Nat.le_of_eq List.length_replicate
      · exact Nat.succ_le_succ (told_len (n := n) (last := some x) (rs := r))
theorem t_a {n : Nat} (h : 0 < n) (h4 : n ≤ 4) : 4 - (n - 1) = (4 - n) + 1 := by omega
theorem t_b {n : Nat} (h : 0 < n) (h4 : n ≤ 4) : 3 - (n - 1) = 4 - n := by omega
theorem t_c {n z o : Nat} (h2 : 0 < n) (h1 : n ≤ 4) (h3 : 4 - n ≤ o) (h4 : ¬ ((z + 1 : Nat) : Int) = 4) (h5 : z = min (4 - n) o) : 0 < n - 1 := by omega
theorem t_d {n o : Nat} (h2 : 0 < n) (h4 : n ≤ 4) (h : 3 - (n - 1) < o) : 4 - (n - 1) ≤ o := by omega
/-- the generator waits: it goes on wherever its own objects stand as they were -/
noncomputable def GenWaits (prog : Program) (w : World) (A : Around) (g : Heap) (bs : List Addr) (outs : List Int) (C : Addr) (n : Nat) (gs : GenState) (xs : List (Addr × Obj)) : Prop :=
  ∀ s'' : Shared, g.StaysIn s''.heap → (∀ q ∈ xs, s''.heap.get? q.1 = some q.2) → (∀ b ∈ bs, ∃ o, s''.heap.get? b = some o) →
    gs.Goes (model prog w) A (RT g bs outs false) (YT g C bs outs) n (.send .none) s''
/-- between two turns of the loop of _law_told -/
noncomputable def ToldJ (prog : Program) (w : World) (A : Around) (g : Heap) (s : Shared) (bs : List Addr) (outs : List Int) (C L lS a : Addr) (names : List (Str × Value)) (n : Nat) (s' : Shared) : Prop :=
  /-EX-/ Ex9 fun h tk m zs nL gs xs G oG => A13 (s' = { s with heap := h, toks := tk, gens := G }) (n ≤ 4) (0 < n) (G[s.gens.size]? = some gs) (Fr g L h m) ((∀ p ∈ names, m p.1 = some p.2)) (News g L h (xs ++ [(lS, W.listOf zs.toArray nL), (a, oG)])) ((∀ q ∈ xs, q.1 ≠ L ∧ q.1 ≠ lS ∧ q.1 ≠ a)) (h.IsGen a s.gens.size) (IntsAre zs (outs.take (4 - n))) (4 - n ≤ outs.length) (GenWaits prog w A g bs outs C n gs xs) (((∀ x ∈ s.gens, x.bare = true) → ∀ x ∈ G, x.bare = true))/-XE-/
theorem c_told {prog : Program} {w : World} {A : Around} {s : Shared} {R : Result → Shared → Prop} {p : Program} {loose : List Str} {mg mb : Str → Option Value}
    (h1 : A.handled = none) (h2 : A.depth ≤ 550) (h3 : A.units ≤ 250)
    (X : (hd.heap_1 w.params).In s.heap) (T : TopRead p loose mg mb s.heap) {lr : Addr} {vs : List Value} {rs : List Int} (hl : s.heap.IsList lr vs.toArray) (hi : IntsAre vs rs) (hr0 : rs.head? ≠ some 0) (hlen : rs.length ≤ 10)
    (h : ∀ l h' tk zs n G, s.heap.StaysIn h' → h'.get? l = some (W.listOf zs.toArray n) → s.heap.get? l = none → IntsAre zs (told 4 none rs) → ((∀ x ∈ s.gens, x.bare = true) → ∀ x ∈ G, x.bare = true) → R (.ok (.ret (.ref l))) { s with heap := h', toks := tk, gens := G }) :
    codeAny (model prog w) A (.call (.ref 180) ⟨[.ref lr], []⟩) R s := by
  refine code_weak (d := 550) (u := 250) (by assumption) (by assumption) (by assumption) ?_
  refine' enter (by assumption) (TopRead.nolimit (by assumption)) (fun _ _ e => e) (Nat.le_refl _) (news := []) (fun _ hp => nomatch hp) ?ho ?hcd ?hroom ?hb ?hloc ?_ ?e1 ?e2 ?e3 ?e4
  (case ho => k_is); (case hcd => k_is); (case hroom => decide); (case hb => exact BindsTo.of_eq rfl); (case hloc => exact locs rfl)
  (case e1 => exact rfl); (case e2 => exact rfl); (case e3 => exact rfl); (case e4 => decide)
  intro L' h₁ F' N' hL'; (try dsimp only); (show wpAny _ _ _ _ _ _); k_fold
  ((try ((with_reducible show wpAny _ _ (execs _ _) _ _ _); (fail_if_success (with_reducible show wpAny _ _ _ Qh _ _)); refine hideQ ?_; intro Qh hQh)); repeat' ((fail_if_success (with_reducible show wpAny _ _ (exec (PySem.Stmt.Assign _ (PySem.Expr.ListComp _ _ _ _) _) _) _ _ _)); (fail_if_success (with_reducible show wpAny _ _ (exec (PySem.Stmt.For _ _ _ _ _) _) _ _ _)); (fail_if_success (with_reducible show wpAny _ _ (eval (PySem.Expr.ListComp _ _ _ _) _) _ _ _)); (first | walk1 | (dsimp only; walk1) | (with_reducible apply Hid.use; with_reducible assumption))))
  refine For_ ?_
  ((try ((with_reducible show wpAny _ _ (execs _ _) _ _ _); (fail_if_success (with_reducible show wpAny _ _ _ Qh _ _)); refine hideQ ?_; intro Qh hQh)); repeat' ((fail_if_success (with_reducible show wpAny _ _ (exec (PySem.Stmt.Assign _ (PySem.Expr.ListComp _ _ _ _) _) _) _ _ _)); (fail_if_success (with_reducible show wpAny _ _ (exec (PySem.Stmt.For _ _ _ _ _) _) _ _ _)); (fail_if_success (with_reducible show wpAny _ _ (eval (PySem.Expr.ListComp _ _ _ _) _) _ _ _)); (fail_if_success (with_reducible show CElt _ _ _ _ _ _ _ _ _ _ _)); (fail_if_success (with_reducible show wpAny _ _ (call (Value.ref _) _ _) _ _ _)); (first | walk1 | (dsimp only; walk1) | (with_reducible apply Hid.use; with_reducible assumption))))
  rename Fr _ _ _ _ => F1
  rename News _ _ _ _ => N1
  rename_i lS _ _ _
  refine wpAny_call ?_
  refine' enterG (by assumption) (TopRead.nolimit (by assumption)) F1.keep (Nat.le_trans F1.above (Nat.le_of_lt F1.ns.lt)) ?ho ?hcd ?hroom ?hb ?hl ?_ ?e1 ?e2 ?e3 ?e4
  (case ho => k_is); (case hcd => k_is); (case hroom => exact Nat.lt_of_succ_le (Nat.le_of_ble_eq_true rfl)); (case hb => exact BindsTo.of_eq rfl); (case hl => exact locs rfl)
  (case e1 => exact rfl); (case e2 => exact rfl); (case e3 => exact rfl); (case e4 => decide)
  intro C a h2 tk2 hC haC hk2 F2 hG2
  have nCa : @Ne Nat C a := Nat.ne_of_lt haC
  unfold ForAt
  refine wpAny_pyIter_gen hG2 ?_
  refine codeAny_forLoop (ToldJ prog w ⟨none, 551, none, none, 254⟩ s.heap s [L', lS, a] (told 4 none rs) C L' lS a [((Str.ofString "sizes"), Value.ref lS)]) ?turn 4 ?start
  case start =>
    obtain ⟨oC, esC, epC, hoC, hrC⟩ := F2.ns
    obtain ⟨oG, nmG, qnG, hoG, hgG⟩ := id hG2
    have F3 := F1.keeps hk2
    have hCs : s.heap.get? C = none := by
      cases e : s.heap.get? C with
      | none => rfl
      | some o => have := Heap.lt_size (F1.keep _ _ e); rw [hC] at this; exact absurd this (Nat.lt_irrefl _)
    refine' ⟨h2, _, _, [], 0, _, [(C, oC)], _, oG, rfl, Nat.le_refl 4, (by decide), Array.getElem?_push_size .., F3, ?n1, ?n2, ?n3, hG2, .nil, Nat.zero_le _, ?n4, ?n5⟩
    case n1 =>
      intro p hp
      rcases List.mem_singleton.mp hp with rfl
      rfl
    case n2 =>
      have hlt1 := F1.ns.lt
      intro p hp
      simp only [List.mem_append, List.mem_cons, List.not_mem_nil, or_false] at hp
      rcases hp with rfl | rfl | rfl
      · exact ⟨hoC, fun e => by rw [hC] at e; exact absurd hlt1 (by rw [← e]; exact Nat.lt_irrefl _), hCs⟩
      · exact ⟨hk2 _ _ (N1 _ (.head _)).1, (N1 _ (.head _)).2⟩
      · refine ⟨hoG, fun e => ?_, ?_⟩
        · have e2 : a = L' := e
          rw [hC] at haC
          have h5 : @LT.lt Nat _ L' a := Nat.lt_trans hlt1 haC
          rw [e2] at h5; exact Nat.lt_irrefl _ h5
        · cases e : s.heap.get? a with
          | none => rfl
          | some o =>
            have h5 := Heap.lt_size (F1.keep _ _ e)
            rw [hC] at haC
            exact absurd (Nat.lt_trans haC h5) (Nat.lt_irrefl _)
    case n3 =>
      have hlt1 := F1.ns.lt
      have hlt2 := Heap.lt_size (N1 _ (.head _)).1
      intro q hq
      rcases List.mem_singleton.mp hq with rfl
      refine ⟨fun e => ?_, fun e => ?_, nCa⟩
      · rw [hC] at e; exact absurd hlt1 (by rw [← e]; exact Nat.lt_irrefl _)
      · rw [hC] at e; exact absurd hlt2 (by dsimp only at e ⊢; rw [← e]; exact Nat.lt_irrefl _)
    case n4 =>
      intro s'' hst hxs hbo
      have hC0 := F2.above
      have hlt1 := F1.ns.lt
      have hlt2 := Heap.lt_size (N1 _ (.head _)).1
      have hbs : ∀ b ∈ [L', lS, a], s.heap.get? b = none ∧ b ≠ C := by
        intro b hb
        simp only [List.mem_cons, List.not_mem_nil, or_false] at hb
        rcases hb with rfl | rfl | rfl
        · refine ⟨?_, fun e => ?_⟩
          · cases e : s.heap.get? b with
            | none => rfl
            | some o =>
              have := Heap.lt_size e
              rw [← hL'] at this
              exact absurd this (Nat.lt_irrefl _)
          · rw [hC] at e; exact absurd hlt1 (by rw [e]; exact Nat.lt_irrefl _)
        · refine ⟨(N1 _ (.head _)).2.2, fun e => ?_⟩
          rw [hC] at e; exact absurd hlt2 (by dsimp only at e ⊢; rw [e]; exact Nat.lt_irrefl _)
        · refine ⟨?_, Ne.symm nCa⟩
          cases e : s.heap.get? b with
          | none => rfl
          | some o =>
            have h5 := Heap.lt_size (F1.keep _ _ e)
            rw [hC] at haC
            exact absurd (Nat.lt_trans haC h5) (Nat.lt_irrefl _)
      refine ⟨rfl, ?_⟩
      refine' gen_start (lr := lr) ?p0 rfl (Nat.le_of_ble_eq_true rfl) (Nat.le_of_ble_eq_true rfl) (by assumption) (by assumption) hl hi ?p1 rfl hr0 (show Fr s.heap C s''.heap _ from ⟨⟨oC, esC, epC, hxs _ (.head _), hrC⟩, hst, hC0⟩) ?p2 hbo ?p3
      case p0 => with_unfolding_all rfl
      case p1 => exact hbs
      case p2 =>
        intro q hq
        obtain ⟨z1, z2⟩ := mem_restOf.mp hq
        exact ⟨z2, (hbs _ z1).2, (hbs _ z1).1⟩
      case p3 =>
        intro q hq
        rcases List.mem_singleton.mp hq with rfl
        rfl
    case n5 =>
      intro hb x hx
      rcases Array.mem_push.mp hx with hx | rfl
      · exact hb x hx
      · rfl
  case turn =>
    rintro n s' ⟨h5, tk5, m, zs, nL, gs, xs, G, oG, rfl, hn4, hn0, hgs, F, hnm, N, hxs, hG, hzs, hno, hW, hbare⟩
    have hCL : @Ne Nat C L' := fun e => by
      have hlt1 := F1.ns.lt
      rw [hC] at e; exact absurd hlt1 (by rw [← e]; exact Nat.lt_irrefl _)
    have hCs : s.heap.get? C = none := by
      cases e : s.heap.get? C with
      | none => rfl
      | some o => have := Heap.lt_size (F1.keep _ _ e); rw [hC] at this; exact absurd this (Nat.lt_irrefl _)
    have hCS : @LT.lt Nat _ lS C := by
      have hlt2 := Heap.lt_size (N1 _ (.head _)).1
      rw [hC]; exact hlt2
    have haS : @LT.lt Nat _ lS a := Nat.lt_trans hCS haC
    clear F1 N1 F2 hG2
    refine next_gen (g := s.gens.size) (n := n) (P := fun n s₀ s₁ => (∃ h tk, s₁ = { s₀ with heap := h, toks := tk }) ∧ Heap.StaysIn s.heap s₁.heap ∧ (∀ q ∈ restOf s₀.heap [L', lS, a], s₁.heap.get? q.1 = some q.2) ∧ (told 4 none rs).length + n = 4)
      (PE := fun n s₀ e s₁ => (∃ h tk, s₁ = { s₀ with heap := h, toks := tk }) ∧ Heap.StaysIn s.heap s₁.heap ∧ (∀ q ∈ restOf s₀.heap [L', lS, a], s₁.heap.get? q.1 = some q.2) ∧ false = true ∧ s₁.TypeIs e "ValueError")
      (Y := YT s.heap C [L', lS, a] (told 4 none rs)) rfl ((TopRead.nolimit T).keeps F.keep) (Nat.lt_of_succ_le (Nat.le_of_ble_eq_true rfl)) hG hgs ?go ?hY ?hP ?hE
    case hE => exact fun e s₁ hpe => absurd hpe.2.2.2.1 Bool.false_ne_true
    case go =>
      refine hW _ F.keep (fun q hq => (N q (List.mem_append_left _ hq)).1) ?_
      intro b hb
      simp only [List.mem_cons, List.not_mem_nil, or_false] at hb
      rcases hb with rfl | rfl | rfl
      · obtain ⟨o, _, _, ho, _⟩ := F.ns; exact ⟨o, ho⟩
      · exact ⟨_, (N (_, _) (List.mem_append_right _ (.head _))).1⟩
      · exact ⟨_, (N (_, _) (List.mem_append_right _ (.tail _ (.head _)))).1⟩
    case hP =>
      rintro s₁ ⟨⟨h6, tk6, rfl⟩, hst, hr, hln⟩ h' hk
      obtain ⟨oL, esL, epL, hoL, hrL⟩ := F.ns
      have F6 : Fr s.heap L' h' m := ⟨⟨oL, esL, epL, hk _ _ (hr (L', oL) (mem_restOf.mpr ⟨.head _, hoL⟩)), hrL⟩, fun b o e => hk b o (hst b o e), F.above⟩
      have N6 : News s.heap L' h' [(lS, W.listOf zs.toArray nL)] := fun q hq => by
        rcases List.mem_singleton.mp hq with rfl
        have z := N (lS, W.listOf zs.toArray nL) (List.mem_append_right _ (.head _))
        exact ⟨hk _ _ (hr (lS, W.listOf zs.toArray nL) (mem_restOf.mpr ⟨.tail _ (.head _), z.1⟩)), z.2⟩
      clear N F
      replace F6 := frNames' _ F6 hnm
      have hz4 : IntsAre zs (told 4 none rs) := by
        rw [List.take_of_length_le (by omega)] at hzs; exact hzs
      (try (with_reducible apply Hid.use; with_reducible assumption)); (try dsimp only)
      ((try ((with_reducible show wpAny _ _ (execs _ _) _ _ _); (fail_if_success (with_reducible show wpAny _ _ _ Qh _ _)); refine hideQ ?_; intro Qh hQh)); repeat' ((fail_if_success (with_reducible show wpAny _ _ (exec (PySem.Stmt.Assign _ (PySem.Expr.ListComp _ _ _ _) _) _) _ _ _)); (fail_if_success (with_reducible show wpAny _ _ (exec (PySem.Stmt.For _ _ _ _ _) _) _ _ _)); (fail_if_success (with_reducible show wpAny _ _ (eval (PySem.Expr.ListComp _ _ _ _) _) _ _ _)); (first | walk1 | (dsimp only; walk1) | (with_reducible apply Hid.use; with_reducible assumption))))
      dsimp only [ForR]
      ((try ((with_reducible show wpAny _ _ (execs _ _) _ _ _); (fail_if_success (with_reducible show wpAny _ _ _ Qh _ _)); refine hideQ ?_; intro Qh hQh)); repeat' ((fail_if_success (with_reducible show wpAny _ _ (exec (PySem.Stmt.Assign _ (PySem.Expr.ListComp _ _ _ _) _) _) _ _ _)); (fail_if_success (with_reducible show wpAny _ _ (exec (PySem.Stmt.For _ _ _ _ _) _) _ _ _)); (fail_if_success (with_reducible show wpAny _ _ (eval (PySem.Expr.ListComp _ _ _ _) _) _ _ _)); (first | walk1 | (dsimp only; walk1) | (with_reducible apply Hid.use; with_reducible assumption))))
      try k_unfold
      (try (with_reducible apply Hid.use; with_reducible assumption)); (try dsimp only)
      rename Fr _ _ _ _ => F7
      rename News _ _ _ _ => N7
      refine h lS _ _ zs nL _ F7.keep (N7 _ (.head _)).1 (N7 _ (.head _)).2.2 hz4 fun hb => bare_set (s := { s with heap := h6, gens := _, toks := tk6 }) (bare_set (s := { s with heap := h5, gens := G, toks := tk5 }) (hbare hb) rfl) rfl
    case hY =>
      rintro v s₁ gs' hgb ⟨It, oI, oC, x, t, ⟨h6, tk6, rfl⟩, rfl, hn3, hout, hst, hr, hIg, hIC, hC6, hI6, hIb, hkap⟩
      obtain ⟨oL, esL, epL, hoL, hrL⟩ := F.ns
      have F6 : Fr s.heap L' h6 m := ⟨⟨oL, esL, epL, hr (L', oL) (mem_restOf.mpr ⟨.head _, hoL⟩), hrL⟩, hst, F.above⟩
      have hIn : @Ne Nat It L' ∧ @Ne Nat It lS ∧ @Ne Nat It a := ⟨fun e => hIb (by rw [show It = L' from e]; exact .head _), fun e => hIb (by rw [show It = lS from e]; exact .tail _ (.head _)), fun e => hIb (by rw [show It = a from e]; exact .tail _ (.tail _ (.head _)))⟩
      have N6 : News s.heap L' h6 ((C, oC) :: (It, oI) :: (lS, W.listOf zs.toArray nL) :: [(a, oG)]) := fun q hq => by
        simp only [List.mem_cons, List.not_mem_nil, or_false] at hq
        have zS := N (lS, W.listOf zs.toArray nL) (List.mem_append_right _ (.head _))
        have zA := N (a, oG) (List.mem_append_right _ (.tail _ (.head _)))
        rcases hq with rfl | rfl | rfl | rfl
        · exact ⟨hC6, hCL, hCs⟩
        · exact ⟨hI6, hIn.1, hIg⟩
        · exact ⟨hr _ (mem_restOf.mpr ⟨.tail _ (.head _), zS.1⟩), zS.2⟩
        · exact ⟨hr _ (mem_restOf.mpr ⟨.tail _ (.tail _ (.head _)), zA.1⟩), zA.2⟩
      have hGa : ∀ hh : Heap, hh.get? a = some oG → hh.IsGen a s.gens.size := fun hh e => by
        obtain ⟨o, nm, qn, e1, r⟩ := hG
        have z : h5.get? a = some oG := (N (a, oG) (List.mem_append_right _ (.tail _ (.head _)))).1
        rw [e1] at z; cases z
        exact ⟨_, nm, qn, e, r⟩
      clear N F
      replace F6 := frNames' _ F6 hnm
      (try (with_reducible apply Hid.use; with_reducible assumption)); (try dsimp only)
      ((try ((with_reducible show wpAny _ _ (execs _ _) _ _ _); (fail_if_success (with_reducible show wpAny _ _ _ Qh _ _)); refine hideQ ?_; intro Qh hQh)); repeat' ((fail_if_success (with_reducible show wpAny _ _ (exec (PySem.Stmt.Assign _ (PySem.Expr.ListComp _ _ _ _) _) _) _ _ _)); (fail_if_success (with_reducible show wpAny _ _ (exec (PySem.Stmt.For _ _ _ _ _) _) _ _ _)); (fail_if_success (with_reducible show wpAny _ _ (eval (PySem.Expr.ListComp _ _ _ _) _) _ _ _)); (fail_if_success (with_reducible show wpAny _ _ (call (Value.builtin "isinstance") _ _) _ _ _)); (fail_if_success (with_reducible show wpAny _ _ (call (Value.builtin "list.append") _ _) _ _ _)); (fail_if_success (with_reducible show wpAny _ _ (compareOp CmpOp.NotIn (Value.ref _) (Value.ref _)) _ _ _)); (fail_if_success (with_reducible show wpAny _ _ (call (Value.ref _) _ _) _ _ _)); (first | walk1 | (dsimp only; walk1) | (with_reducible apply Hid.use; with_reducible assumption))))
      rename Fr _ _ _ _ => F7
      rename News _ _ _ _ => N7
      have hzl : zs.length ≤ 10 := by
        rw [hzs.length]; exact Nat.le_trans (List.length_take_le ..) (by omega)
      refine append_any (x := .int x t) F7 N7 (.tail _ (.tail _ (.head _))) (by omega) ((C, oC) :: (It, oI) :: (lS, W.listOf (zs ++ [Value.int x t]).toArray (nL + 1)) :: [(a, oG)]) (fun p hp => ?_) ?_
      · simp only [List.mem_cons, List.not_mem_nil, or_false] at hp
        rcases hp with rfl | rfl | rfl | rfl
        · exact .inr ⟨.head _, Nat.ne_of_gt hCS⟩
        · exact .inr ⟨.tail _ (.head _), hIn.2.1⟩
        · exact .inl rfl
        · exact .inr ⟨.tail _ (.tail _ (.tail _ (.head _))), Nat.ne_of_gt haS⟩
      intro h8 F8 N8
      have hz8 : IntsAre (zs ++ [Value.int x t]) ((told 4 none rs).take (4 - (n - 1))) := by
        have e : 4 - (n - 1) = (4 - n) + 1 := t_a (by assumption) (by assumption)
        have e2 : 3 - (n - 1) = 4 - n := t_b (by assumption) (by assumption)
        rw [e, List.take_add_one, ← e2, hout]
        rw [e2]; exact ints_snoc hzs
      clear F7 N7
      ((try ((with_reducible show wpAny _ _ (execs _ _) _ _ _); (fail_if_success (with_reducible show wpAny _ _ _ Qh _ _)); refine hideQ ?_; intro Qh hQh)); repeat' ((fail_if_success (with_reducible show wpAny _ _ (exec (PySem.Stmt.Assign _ (PySem.Expr.ListComp _ _ _ _) _) _) _ _ _)); (fail_if_success (with_reducible show wpAny _ _ (exec (PySem.Stmt.For _ _ _ _ _) _) _ _ _)); (fail_if_success (with_reducible show wpAny _ _ (eval (PySem.Expr.ListComp _ _ _ _) _) _ _ _)); (fail_if_success (with_reducible show wpAny _ _ (call (Value.builtin "isinstance") _ _) _ _ _)); (fail_if_success (with_reducible show wpAny _ _ (call (Value.builtin "list.append") _ _) _ _ _)); (fail_if_success (with_reducible show wpAny _ _ (compareOp CmpOp.NotIn (Value.ref _) (Value.ref _)) _ _ _)); (fail_if_success (with_reducible show wpAny _ _ (call (Value.ref _) _ _) _ _ _)); (first | walk1 | (dsimp only; walk1) | (with_reducible apply Hid.use; with_reducible assumption))))
      rename Fr _ _ _ _ => F9
      rename News _ _ _ _ => N9
      have hLS : Heap.IsList _ lS (zs ++ [Value.int x t]).toArray := News.isList N9 (.tail _ (.tail _ (.head _)))
      refine call_len_list hLS (by rw [List.size_toArray, List.length_append, List.length_singleton]; omega) ?_
      ((try ((with_reducible show wpAny _ _ (execs _ _) _ _ _); (fail_if_success (with_reducible show wpAny _ _ _ Qh _ _)); refine hideQ ?_; intro Qh hQh)); repeat' ((fail_if_success (with_reducible show wpAny _ _ (exec (PySem.Stmt.Assign _ (PySem.Expr.ListComp _ _ _ _) _) _) _ _ _)); (fail_if_success (with_reducible show wpAny _ _ (exec (PySem.Stmt.For _ _ _ _ _) _) _ _ _)); (fail_if_success (with_reducible show wpAny _ _ (eval (PySem.Expr.ListComp _ _ _ _) _) _ _ _)); (fail_if_success (with_reducible show wpAny _ _ (call (Value.builtin "isinstance") _ _) _ _ _)); (fail_if_success (with_reducible show wpAny _ _ (call (Value.builtin "list.append") _ _) _ _ _)); (fail_if_success (with_reducible show wpAny _ _ (compareOp CmpOp.NotIn (Value.ref _) (Value.ref _)) _ _ _)); (fail_if_success (with_reducible show wpAny _ _ (call (Value.ref _) _ _) _ _ _)); (first | walk1 | (dsimp only; walk1) | (with_reducible apply Hid.use; with_reducible assumption))))
      · rename Fr _ _ _ _ => F10
        rename News _ _ _ _ => N10
        rename (((_ : Nat) : Int) = 4) => q4
        have hz9 : IntsAre (zs ++ [Value.int x t]) (told 4 none rs) := by
          have z1 := hz8.length
          have z2 := told_len (n := 4) (last := none) (rs := rs)
          rw [List.size_toArray] at q4
          rw [List.length_take] at z1
          rw [List.take_of_length_le (by omega)] at hz8
          exact hz8
        (try (with_reducible apply Hid.use; with_reducible assumption)); (try dsimp only)
        ((try ((with_reducible show wpAny _ _ (execs _ _) _ _ _); (fail_if_success (with_reducible show wpAny _ _ _ Qh _ _)); refine hideQ ?_; intro Qh hQh)); repeat' ((fail_if_success (with_reducible show wpAny _ _ (exec (PySem.Stmt.Assign _ (PySem.Expr.ListComp _ _ _ _) _) _) _ _ _)); (fail_if_success (with_reducible show wpAny _ _ (exec (PySem.Stmt.For _ _ _ _ _) _) _ _ _)); (fail_if_success (with_reducible show wpAny _ _ (eval (PySem.Expr.ListComp _ _ _ _) _) _ _ _)); (first | walk1 | (dsimp only; walk1) | (with_reducible apply Hid.use; with_reducible assumption))))
        dsimp only [ForR]
        ((try ((with_reducible show wpAny _ _ (execs _ _) _ _ _); (fail_if_success (with_reducible show wpAny _ _ _ Qh _ _)); refine hideQ ?_; intro Qh hQh)); repeat' ((fail_if_success (with_reducible show wpAny _ _ (exec (PySem.Stmt.Assign _ (PySem.Expr.ListComp _ _ _ _) _) _) _ _ _)); (fail_if_success (with_reducible show wpAny _ _ (exec (PySem.Stmt.For _ _ _ _ _) _) _ _ _)); (fail_if_success (with_reducible show wpAny _ _ (eval (PySem.Expr.ListComp _ _ _ _) _) _ _ _)); (first | walk1 | (dsimp only; walk1) | (with_reducible apply Hid.use; with_reducible assumption))))
        try k_unfold
        (try (with_reducible apply Hid.use; with_reducible assumption)); (try dsimp only)
        rename Fr _ _ _ _ => F11
        rename News _ _ _ _ => N11
        exact h lS _ _ _ _ _ F11.keep (N11 _ (.tail _ (.tail _ (.head _)))).1 (N11 _ (.tail _ (.tail _ (.head _)))).2.2 hz9 fun hb => bare_set (s := { s with heap := h6, gens := _, toks := tk6 }) (bare_set (s := { s with heap := h5, gens := G, toks := tk5 }) (hbare hb) rfl) hgb
      rotate_left 2
      · exact n - 1
      · exact (show n - 1 < n by omega)
      · rename Fr _ _ _ _ => F10
        rename News _ _ _ _ => N10
        rename (¬ ((_ : Nat) : Int) = 4) => q4
        have hlz := hzs.length
        have hl1 := (List.getElem?_eq_some_iff.mp hout).1
        have hn1 : 0 < n - 1 := by
          rw [List.size_toArray, List.length_append, List.length_singleton] at q4
          rw [List.length_take] at hlz
          exact t_c (by assumption) (by assumption) (by assumption) q4 hlz
        have hl2 : 4 - (n - 1) ≤ (told 4 none rs).length := t_d (by assumption) (by assumption) hl1
        obtain ⟨oG2, nmG, qnG, hoG, hgG⟩ := id hG
        refine' ⟨h8, _, _, zs ++ [Value.int x t], nL + 1, gs', [(C, oC), (It, oI)], _, oG, rfl, (by omega), hn1, setGen_self (gs := .running) (setGen_self hgs), F10, ?k1, ?k2, ?k3, ?k4, hz8, hl2, ?k5, ?k6⟩
        case k1 =>
          intro p hp
          rcases List.mem_singleton.mp hp with rfl
          rfl
        case k2 => exact N10
        case k3 =>
          intro q hq
          simp only [List.mem_cons, List.not_mem_nil, or_false] at hq
          rcases hq with rfl | rfl
          · exact ⟨hCL, Nat.ne_of_gt hCS, nCa⟩
          · exact hIn
        case k4 => exact hGa _ (N10 (a, oG) (.tail _ (.tail _ (.tail _ (.head _))))).1
        case k5 =>
          obtain ⟨n', rfl⟩ : ∃ n', n = n' + 1 := ⟨n - 1, by omega⟩
          exact fun s'' z1 z2 _ => hkap hn1 s'' z1 (z2 _ (.head _)) (z2 _ (.tail _ (.head _)))
        case k6 => exact fun hb => bare_set (s := { s with heap := h6, gens := _, toks := tk6 }) (bare_set (s := { s with heap := h5, gens := G, toks := tk5 }) (hbare hb) rfl) hgb

end
/-! C_told0 -/
section
theorem code_weakF {M : Model} {A : Around} {c : Code} {R : Result → Shared → Prop} {s : Shared} {d u : Nat} {l : List Env}
    (h1 : A.handled = none) (h2 : A.depth ≤ d) (h3 : A.units ≤ u) (hfr : A.frames = some l)
    (h : codeAny M ⟨none, d, some l, none, u⟩ c R s) : codeAny M A c R s := fun Γ p hc hΓ =>
  h Γ p hc ⟨hΓ.1.trans h1, Nat.le_trans hΓ.2.1 h2, (fun l' e => hΓ.2.2.1 l' (hfr.trans e)), (fun g e => by cases e), Nat.le_trans hΓ.2.2.2.2 h3⟩
theorem next_bad {prog : Program} {w : World} {A : Around} {E : Value → Shared → Prop} {s : Shared} {a : Addr} {g : Nat} {gs : GenState} {Q : Option Value → Shared → Prop} {bb : Heap} {env env0 : Env} {kf : List (Addr × Obj)} (_hfr : A.frames = some [env, env0]) (hh : A.handled = none)
    (hl : s.heap.NoLimit) (hroom : A.depth < recursionLimit) (hg : s.heap.IsGen a g) (hgs : s.gens[g]? = some gs)
    (hgo : gs.Goes (model prog w) A.in1 (RB bb [env, env0] kf) (fun _ _ _ _ _ => False) 0 (.send .none) (s.setGen g .running))
    (hE : ∀ e s₁, PB bb [env, env0] kf 0 (s.setGen g .running) e s₁ → s₁.heap.IsGen a g ∧ (s₁.setGen g .finished).TypeIs e "ValueError" ∧ E e (s₁.setGen g .finished)) :
    wpAny (model prog w) A (pyNext (.ref a)) Q E s :=
  next_gen (n := 0) (P := fun _ _ _ => False) (PE := PB bb [env, env0] kf) (Y := fun _ _ _ _ _ => False) hh hl hroom hg hgs hgo (fun _ _ _ _ h => h.elim) (fun _ h => h.elim) hE
theorem c_told0 {prog : Program} {w : World} {A : Around} {s : Shared} {R : Result → Shared → Prop} {p : Program} {loose : List Str} {mg mb : Str → Option Value}
    (h1 : A.handled = none) (h2 : A.depth ≤ 550) (h3 : A.units ≤ 250) {env0 : Env} {LL : Addr} {oLL : Obj} (hfr : A.frames = some [env0]) (hk0 : env0.scope.kind ≠ .module) (hf0 : env0.frame = some LL) (hM : ∀ p ∈ [(LL, oLL)], s.heap.get? p.1 = some p.2) (hnf : ∀ vs, oLL.data ≠ .fields vs)
    (X : (hd.heap_1 w.params).In (hidden s.heap [(LL, oLL)])) (T : TopRead p loose mg mb (hidden s.heap [(LL, oLL)])) {lr : Addr} {vs : List Value} {rs : List Int} (hl : (hidden s.heap [(LL, oLL)]).IsList lr vs.toArray) (hi : IntsAre vs rs) (hr0 : rs.head? = some 0)
    (h : ∀ h' tk G sl, (hidden s.heap [(LL, oLL)]).StaysIn h' → h'.get? LL = some { oLL with slots := sl } → ((∀ x ∈ s.gens, x.bare = true) → ∀ x ∈ G, x.bare = true) → R (.ok (.ret .none)) { s with heap := h', toks := tk, gens := G }) :
    codeAny (model prog w) A (.call (.ref 180) ⟨[.ref lr], []⟩) R s := by
  refine code_weakF (d := 550) (u := 250) h1 h2 h3 hfr ?_
  refine' enter (by assumption) (TopRead.nolimit (by assumption)) (fun _ _ e => of_hideAll _ e) (Nat.le_of_eq (hideAll_size _ _)) (enterM_news hM) ?ho ?hcd ?hroom ?hb ?hloc ?_ ?e1 ?e2 ?e3 ?e4
  (case ho => k_is); (case hcd => k_is); (case hroom => exact Nat.lt_of_succ_le (Nat.le_of_ble_eq_true rfl)); (case hb => exact BindsTo.of_eq rfl); (case hloc => exact locs rfl)
  (case e1 => exact rfl); (case e2 => exact rfl); (case e3 => exact rfl); (case e4 => decide)
  intro L' h₁ F' N' hL'; (try dsimp only); (show wpAny _ _ _ _ _ _); k_fold
  unfold hidden at X T hl h
  generalize hg : hideAll s.heap (List.map (fun x => x.fst) [(LL, oLL)]) = g at *
  ((try ((with_reducible show wpAny _ _ (execs _ _) _ _ _); (fail_if_success (with_reducible show wpAny _ _ _ Qh _ _)); refine hideQ ?_; intro Qh hQh)); repeat' ((fail_if_success (with_reducible show wpAny _ _ (exec (PySem.Stmt.Assign _ (PySem.Expr.ListComp _ _ _ _) _) _) _ _ _)); (fail_if_success (with_reducible show wpAny _ _ (exec (PySem.Stmt.For _ _ _ _ _) _) _ _ _)); (fail_if_success (with_reducible show wpAny _ _ (eval (PySem.Expr.ListComp _ _ _ _) _) _ _ _)); (first | walk1 | (dsimp only; walk1) | (with_reducible apply Hid.use; with_reducible assumption))))
  refine For_ ?_
  ((try ((with_reducible show wpAny _ _ (execs _ _) _ _ _); (fail_if_success (with_reducible show wpAny _ _ _ Qh _ _)); refine hideQ ?_; intro Qh hQh)); repeat' ((fail_if_success (with_reducible show wpAny _ _ (exec (PySem.Stmt.Assign _ (PySem.Expr.ListComp _ _ _ _) _) _) _ _ _)); (fail_if_success (with_reducible show wpAny _ _ (exec (PySem.Stmt.For _ _ _ _ _) _) _ _ _)); (fail_if_success (with_reducible show wpAny _ _ (eval (PySem.Expr.ListComp _ _ _ _) _) _ _ _)); (fail_if_success (with_reducible show CElt _ _ _ _ _ _ _ _ _ _ _)); (fail_if_success (with_reducible show wpAny _ _ (call (Value.ref _) _ _) _ _ _)); (first | walk1 | (dsimp only; walk1) | (with_reducible apply Hid.use; with_reducible assumption))))
  rename Fr _ _ _ _ => F1
  rename News _ _ _ _ => N1
  rename_i lS _ _ _
  refine wpAny_call ?_
  refine' enterG (by assumption) (TopRead.nolimit (by assumption)) F1.keep (Nat.le_trans F1.above (Nat.le_of_lt F1.ns.lt)) ?ho ?hcd ?hroom ?hb ?hl ?_ ?e1 ?e2 ?e3 ?e4
  (case ho => k_is); (case hcd => k_is); (case hroom => exact Nat.lt_of_succ_le (Nat.le_of_ble_eq_true rfl)); (case hb => exact BindsTo.of_eq rfl); (case hl => exact locs rfl)
  (case e1 => exact rfl); (case e2 => exact rfl); (case e3 => exact rfl); (case e4 => decide)
  intro C a h2 tk2 hC haC hk2 F2 hG2
  have nCa : @Ne Nat C a := Nat.ne_of_lt haC
  unfold ForAt
  refine wpAny_pyIter_gen hG2 ?_
  obtain ⟨oG, nmG, qnG, hoG, hgG⟩ := id hG2
  obtain ⟨oL, esL, epL, hoL, hdL, hrL⟩ := (F1.keeps hk2).ns
  have hlt1 := F1.ns.lt
  have zL := (N1 _ (.tail _ (.head _)))
  have hLLlt := Heap.lt_size zL.1
  have hgL : g.get? L' = none := Heap.get?_none_of_le F1.above
  have hNk : News g C h2 [(L', oL), (LL, oLL), (a, oG)] := fun q hq => by
    simp only [List.mem_cons, List.not_mem_nil, or_false] at hq
    rcases hq with rfl | rfl | rfl
    · exact ⟨hoL, fun e => by rw [hC] at e; exact absurd hlt1 (by rw [show L' = _ from e]; exact Nat.lt_irrefl _), hgL⟩
    · exact ⟨hk2 _ _ zL.1, fun e => by rw [hC] at e; exact absurd hLLlt (by rw [show LL = _ from e]; exact Nat.lt_irrefl _), zL.2.2⟩
    · refine ⟨hoG, Ne.symm nCa, ?_⟩
      cases e : g.get? a with
      | none => rfl
      | some o =>
        have h5 := Heap.lt_size (F1.keep _ _ e)
        rw [hC] at haC
        exact absurd (Nat.lt_trans haC h5) (Nat.lt_irrefl _)
  have hkd : ∀ q ∈ [(L', oL), (LL, oLL)], ∀ vs, q.2.data ≠ .fields vs := fun q hq vs e => by
    simp only [List.mem_cons, List.not_mem_nil, or_false] at hq
    rcases hq with rfl | rfl
    · rw [show _ = _ from hdL] at e; cases e
    · exact hnf vs e
  have hgC : g.get? C = none := Heap.get?_none_of_le F2.above
  have ha1 : @Ne Nat L' a := fun e => by
    rw [hC] at haC; rw [show L' = a from e] at hlt1; exact absurd (Nat.lt_trans haC hlt1) (Nat.lt_irrefl _)
  have ha2 : @Ne Nat LL a := fun e => by
    rw [hC] at haC; rw [show LL = a from e] at hLLlt; exact absurd (Nat.lt_trans haC hLLlt) (Nat.lt_irrefl _)
  have keep2 : ∀ b o, g.get? b = some o → h2.get? b = some o := fun b o e => hk2 b o (F1.keep b o e)
  refine codeAny_forLoop_any (fun n s' => n = 0 ∧ s' = _) ?turn 0 ⟨rfl, rfl⟩
  rintro n s' ⟨rfl, rfl⟩
  refine next_bad (bb := plus h2 g a) (env0 := env0) (kf := [(L', oL), (LL, oLL)]) (g := s.gens.size) rfl rfl ((TopRead.nolimit T).keeps fun b o e => hk2 b o (F1.keep b o e)) (Nat.lt_of_succ_le (Nat.le_of_ble_eq_true rfl)) hG2 (Array.getElem?_push_size ..) ?go ?hE
  case go =>
    refine ⟨rfl, ?_⟩
    refine' gen_bad (lr := lr) ?p0 ?p1 rfl (Nat.le_of_ble_eq_true rfl) (Nat.le_of_ble_eq_true rfl) rfl X T hl hi hr0 F2 hNk hkd (fun q hq => List.mem_append_left [(a, oG)] hq) ?p2 (plus_none hgC nCa) ?p3
    case p0 => with_unfolding_all rfl
    case p1 => with_unfolding_all rfl
    case p2 =>
      refine fun h' st N => ⟨fun b o e => ?_, (fun e => by cases e), ⟨L', oL, rfl, plus_none hgL ha1, (N _ (.head _)).1, hkd _ (.head _)⟩, hk0, ⟨LL, oLL, hf0, plus_none zL.2.2 ha2, (N _ (.tail _ (.head _))).1, hnf⟩, trivial⟩
      obtain ⟨z1, rfl | ⟨o', z2⟩⟩ := plus_get e
      · rw [hoG] at z1; cases z1
        exact (N _ (.tail _ (.tail _ (.head _)))).1
      · have z3 := keep2 b o' z2
        rw [z1] at z3; cases z3
        exact st b _ z2
    case p3 =>
      intro q hq
      rcases List.mem_singleton.mp hq with rfl
      rfl
  case hE =>
    rintro v s₁ ⟨e, rfl, ⟨h6, tk6, rfl⟩, fl⟩
    refine ⟨?_, fl.typeIs, ?_⟩
    · exact ⟨oG, nmG, qnG, fl.stays _ _ (plus_a hoG), hgG⟩
    unfold notedBy
    refine note_next (base := plus h2 g a) (outer := [env0]) (L := L') rfl rfl fl hkd ?_
    intro h7 fl2
    dsimp only [ForR]
    unfold cameBackBy
    refine came_back fl2 hkd ?_
    intro h8 fl3
    (try (with_reducible apply Hid.use; with_reducible assumption)); (try dsimp only)
    refine note_same (L := L') rfl fl3 ?_
    refine fly_set (f := none) fl3 hkd ?_
    intro h9 fl4
    have hst : g.StaysIn h9 := fun b o e => fl4.stays _ _ (plus_g keep2 b o e)
    obtain ⟨slL, zL2⟩ := fl4.keep _ (.head _)
    obtain ⟨slM, zM2⟩ := fl4.keep _ (.tail _ (.head _))
    have F9 : Fr g L' h9 _ := ⟨⟨_, esL, epL, zL2, hdL, hrL⟩, hst, F1.above⟩
    have N9 : News g L' h9 [(LL, { oLL with slots := slM })] := fun q hq => by
      rcases List.mem_singleton.mp hq with rfl
      exact ⟨zM2, zL.2⟩
    refine wpAny_handleBy_builtin (X := "ValueError") (T := "ValueError") (b := true) (by kernel_rfl) (by kernel_rfl) (by kernel_rfl) ?_
    have habv := F1.above
    clear F1 N1 F2
    ((try ((with_reducible show wpAny _ _ (execs _ _) _ _ _); (fail_if_success (with_reducible show wpAny _ _ _ Qh _ _)); refine hideQ ?_; intro Qh hQh)); repeat' ((fail_if_success (with_reducible show wpAny _ _ (exec (PySem.Stmt.Assign _ (PySem.Expr.ListComp _ _ _ _) _) _) _ _ _)); (fail_if_success (with_reducible show wpAny _ _ (exec (PySem.Stmt.For _ _ _ _ _) _) _ _ _)); (fail_if_success (with_reducible show wpAny _ _ (eval (PySem.Expr.ListComp _ _ _ _) _) _ _ _)); (first | walk1 | (dsimp only; walk1) | (with_reducible apply Hid.use; with_reducible assumption))))
    · exact fl4.typeIs
    refine fly_set (f := none) fl4 hkd ?_
    intro h10 fl5
    obtain ⟨slM5, zM5⟩ := fl5.keep _ (.tail _ (.head _))
    obtain ⟨slL5, zL5⟩ := fl5.keep _ (.head _)
    have hst5 : g.StaysIn h10 := fun b o e => fl5.stays _ _ (plus_g keep2 b o e)
    clear F9 N9
    have F10 : Fr g L' h10 _ := ⟨⟨_, esL, epL, zL5, hdL, hrL⟩, hst5, habv⟩
    have N10 : News g L' h10 [(LL, { oLL with slots := slM5 })] := fun q hq => by
      rcases List.mem_singleton.mp hq with rfl
      exact ⟨zM5, zL.2⟩
    ((try ((with_reducible show wpAny _ _ (execs _ _) _ _ _); (fail_if_success (with_reducible show wpAny _ _ _ Qh _ _)); refine hideQ ?_; intro Qh hQh)); repeat' ((fail_if_success (with_reducible show wpAny _ _ (exec (PySem.Stmt.Assign _ (PySem.Expr.ListComp _ _ _ _) _) _) _ _ _)); (fail_if_success (with_reducible show wpAny _ _ (exec (PySem.Stmt.For _ _ _ _ _) _) _ _ _)); (fail_if_success (with_reducible show wpAny _ _ (eval (PySem.Expr.ListComp _ _ _ _) _) _ _ _)); (first | walk1 | (dsimp only; walk1) | (with_reducible apply Hid.use; with_reducible assumption))))
    (try (with_reducible apply Hid.use; with_reducible assumption)); (try dsimp only)
    try k_unfold
    (try (with_reducible apply Hid.use; with_reducible assumption)); (try dsimp only)
    refine h _ _ _ slM5 hst5 zM5 fun hb => ?_
    refine bare_set (s := { s with heap := h2, gens := _ }) (bare_set (s := { s with heap := h2, gens := _ }) (fun x hx => ?_) rfl) rfl
    rcases Array.mem_push.mp hx with hx | rfl
    · exact hb x hx
    · rfl

end
/-! B18 -/
section
section
variable {prog : Program} {w : World} {A : Around} {E : Value → Shared → Prop} {s : Shared} {g : Heap} {L : Addr} {m : Str → Option Value} {news : List (Addr × Obj)}
/-- a tuple is none of the lexer's objects -/
theorem tup_off {a : Lx} {i n : Nat} {tl ti : Tok} {vs us : List Value} {D : Addr} {h : Heap} (ok : a.Ok w) (N : ∀ p ∈ a.MP w i tl ti vs n, h.get? p.1 = some p.2) (e : h.get? D = some (tupO us)) : D ∉ (a.MP w 0 0 0 [] 0).map (·.1) := by
  intro hm
  rw [Lx.MP_keys (j := i) (tl' := tl) (ti' := ti) (vs' := vs) (n' := n)] at hm
  obtain ⟨p, hp, rfl⟩ := List.mem_map.mp hm
  have z := N p hp
  rw [e] at z
  have hd : Data.seq us.toArray 0 = p.2.data := congrArg Obj.data (Option.some.inj z)
  have hc : Value.type "tuple" = p.2.cls := congrArg Obj.cls (Option.some.inj z)
  obtain ⟨vs', tq, oc1, oc2⟩ := ok.oc
  simp only [Lx.MP, Lx.M, List.cons_append, List.nil_append, List.mem_cons, List.not_mem_nil, or_false] at hp
  rcases hp with rfl | rfl | rfl | rfl | rfl | rfl | rfl | rfl | rfl | rfl
  · cases hd
  · exact absurd (show Value.type "tuple" = Value.type "list" from hc) (by decide)
  · cases hd
  · cases hd
  · cases hd
  · rw [show (a.f, a.fo).2.data = _ from ok.fo] at hd; cases hd
  · rw [show (a.c, a.oc).2.data = _ from oc1] at hd; cases hd
  · rw [show (a.cs, a.oS).2.data = _ from ok.oS] at hd; cases hd
  · rw [show (a.ct, a.oT).2.data = _ from ok.oT] at hd; cases hd
  · exact absurd (show Value.type "tuple" = Value.type "list" from hc) (by decide)
/-- storing into a cell, whatever else the ledger holds -/
theorem storeC_any {env : Env} {x : Str} {c : Addr} {o : Obj} {v₀ : Option Value} {v : Value} {Q : Unit → Shared → Prop} (F : Fr g L s.heap m) (N : News g L s.heap news) (hm : (c, o) ∈ news) (hd : o.data = .cell v₀) (rest : List (Addr × Obj)) (hs : ∀ p ∈ rest, p ∈ news ∧ p.1 ≠ c)
    (h : ∀ h' o', o'.data = .cell (some v) → Fr g L h' m → News g L h' ((c, o') :: rest) → Q () { s with heap := h' })
    (hk : env.scope.kind = .function := by rfl) (hx : env.kindOf x = some .cell := by rfl) (hcl : env.cells.lookup x = some c := by rfl) : wpAny (model prog w) A (storeName env x v) Q E s := by
  have z := N _ hm
  refine wpAny_storeName_cell hk hx hcl ⟨o, z.1, hd⟩ fun h' hc hs' => ?_
  obtain ⟨o', ho', hd'⟩ := hc
  refine h h' o' hd' (F.change hs' z.2.1 z.2.2) fun p hp => ?_
  rcases List.mem_cons.mp hp with rfl | hp
  · exact ⟨ho', z.2⟩
  · obtain ⟨h1, h2⟩ := hs p hp
    have z1 := N p h1
    exact ⟨hs'.extBut _ _ h2 z1.1, z1.2⟩
end
theorem mp_apart {a : Lx} {w : World} {X i n : Nat} {tl ti : Tok} {vs : List Value} (h : ∀ b ∈ (a.MP w 0 0 0 [] 0).map (·.1), @Ne Nat X b) : ∀ p ∈ a.MP w i tl ti vs n, @Ne Nat p.1 X := fun p hp e =>
  h p.1 (by rw [Lx.MP_keys (j := i) (tl' := tl) (ti' := ti) (vs' := vs) (n' := n)]; exact List.mem_map.mpr ⟨p, hp, rfl⟩) e.symm
abbrev refs (rs : List (Addr × List Value)) : List Value := rs.map fun c => Value.ref c.1
theorem dd_snoc {cls : List (List Int)} {k : Nat} {c : List Int} (h : cls[k]? = some c) : ddOf (cls.take (k + 1)) = addNew (ddOf (cls.take k)) c := by
  unfold ddOf
  rw [List.take_add_one, h, List.foldl_append]; rfl
theorem lay2 {g h : Heap} {L : Addr} {a b : Addr × Obj} {Ms R : List (Addr × Obj)} (N : News g L h (a :: b :: (Ms ++ R))) : News g L h (Ms ++ (a :: b :: R)) :=
  N.perm fun p hp => by
    simp only [List.mem_append, List.mem_cons] at hp ⊢
    rcases hp with h | h | h | h <;> simp only [h, true_or, or_true]
theorem unlay2 {g h : Heap} {L : Addr} {a b : Addr × Obj} {Ms R : List (Addr × Obj)} (N : News g L h (Ms ++ (a :: b :: R))) : News g L h (a :: b :: (Ms ++ R)) :=
  N.perm fun p hp => by
    simp only [List.mem_append, List.mem_cons] at hp ⊢
    rcases hp with h | h | h | h <;> simp only [h, true_or, or_true]
theorem refs_snoc {rs : List (Addr × List Value)} {r : Addr × List Value} : refs rs ++ [Value.ref r.1] = refs (rs ++ [r]) := by unfold refs; rw [List.map_append]; rfl
theorem refs_len {rs : List (Addr × List Value)} : (refs rs).length = rs.length := List.length_map ..
theorem allLt_get {d : Addr} {l : List (Addr × Obj)} : PySem.W.AllLt d l → ∀ p ∈ l, @LT.lt Nat _ p.1 d := by
  induction l with
  | nil => intro _ p hp; cases hp
  | cons q r ih =>
    intro h p hp
    rcases List.mem_cons.mp hp with e | hp
    · rw [e]; exact h.1
    · exact ih h.2 p hp
theorem tup_ne_cell {vs : List Value} {o : Obj} {v : Option Value} (h : o.data = .cell v) : tupO vs ≠ o := fun e => by
  have h2 : Data.seq vs.toArray 0 = Data.cell v := (congrArg Obj.data e).trans h
  cases h2
/-- what stands beside the lexer in the main loop of _law_found -/
abbrev RestF (cA cC lF lK : Addr) (oA oC : Obj) (fr : List (Addr × List Value)) (nF : Nat) (kr : List (Addr × List Value)) (nK : Nat) (ex : List (Addr × List Value)) : List (Addr × Obj) :=
  (cA, oA) :: (cC, oC) :: (lF, W.listOf (refs fr).toArray nF) :: (lK, W.listOf (refs kr).toArray nK) :: ex.map rowObj
theorem lay1' {g h : Heap} {L : Addr} {a : Addr × Obj} {Ms R : List (Addr × Obj)} (N : News g L h (a :: (Ms ++ R))) : News g L h (Ms ++ (a :: R)) :=
  N.perm fun p hp => by
    simp only [List.mem_append, List.mem_cons] at hp ⊢
    rcases hp with h | h | h <;> simp only [h, true_or, or_true]
theorem unlay1' {g h : Heap} {L : Addr} {a : Addr × Obj} {Ms R : List (Addr × Obj)} (N : News g L h (Ms ++ (a :: R))) : News g L h (a :: (Ms ++ R)) :=
  N.perm fun p hp => by
    simp only [List.mem_append, List.mem_cons] at hp ⊢
    rcases hp with h | h | h <;> simp only [h, true_or, or_true]
theorem others_snoc {g : List Int} {j : Nat} {p : Int} (h : g[j]? = some p) : othersOf (g.take (j + 1)) = othersOf (g.take j) ++ ((if p < 256 then [p + 3] else []) ++ (if p ≥ 256 then [p - 3] else [])) := by
  unfold othersOf
  rw [List.take_add_one, h, List.flatMap_append]
  simp
theorem others_len {g : List Int} : (othersOf g).length ≤ g.length := by
  unfold othersOf
  induction g with
  | nil => exact Nat.le_refl _
  | cons a r ih =>
    rw [List.flatMap_cons, List.length_append, List.length_cons]
    have : ((if a < 256 then [a + 3] else []) ++ (if a ≥ 256 then [a - 3] else [])).length ≤ 1 := by
      by_cases h : a < 256
      · rw [if_pos h, if_neg (by omega)]; exact Nat.le_refl _
      · rw [if_neg h, if_pos (by omega)]; exact Nat.le_refl _
    omega
theorem any_mem {c : List Int} {o : Int} : (c.any fun x => x == o) = decide (o ∈ c) := by
  rw [Bool.eq_iff_iff, List.any_eq_true, decide_eq_true_iff]
  exact ⟨fun ⟨x, h1, h2⟩ => by rw [← eq_of_beq h2]; exact h1, fun h => ⟨o, h, beq_self_eq_true o⟩⟩
theorem filter_snoc {l : List Int} {j : Nat} {x : Int} (P : Int → Bool) (h : l[j]? = some x) : (l.take (j + 1)).filter P = (l.take j).filter P ++ (if P x = true then [x] else []) := by
  rw [List.take_add_one, h, List.filter_append]
  congr 1
  show List.filter P [x] = _
  rw [List.filter_cons]; rfl
section
variable {prog : Program} {w : World} {A : Around} {h₀ : Heap}
theorem comp_tupA {env : Env} {elt iter : Expr} {x : Str} {px : Pos} {ifs : List Expr} {scope : Scope} {cl : List (Str × Addr)} {pos : Pos} {Q : Shared → Prop} {y₀ : Str} {py : Pos} {m₀ : Str → Option Value} {news₀ : List (Addr × Obj)} {E : Value → Shared → Prop}
    {s₁ : Shared} {l : Addr} {its : Array Value} (J : Nat → List Value → List (Addr × Obj) → Prop)
    (F₀ : Fr h₀ env.locals s₁.heap m₀) (N₀ : News h₀ env.locals s₁.heap news₀)
    (hh : A.handled = none) (hl : s₁.heap.IsTuple l its) (hsz : its.size ≤ sizeLine) (h0 : J 0 [] [])
    (test : ∀ i v ys news I C D oI h tk E', its[i]? = some v → J i ys news → Fr s₁.heap C h (fun y => if y = x then some v else none) → News s₁.heap C h ((I, oI) :: (D, PySem.W.listOf ys.toArray ys.length) :: news) → (∀ p ∈ news, p.1 ≠ I ∧ p.1 ≠ D) → D ≠ I →
      wpAny (model prog w) A (tests ifs (compEnvC scope cl C env)) (CTest s₁.heap C I D oI (PySem.W.listOf ys.toArray ys.length) (fun y => if y = x then some v else none)
        (fun b news' => if b = true then ∀ oI h tk E', Fr s₁.heap C h (fun y => if y = x then some v else none) → News s₁.heap C h ((I, oI) :: (D, PySem.W.listOf ys.toArray ys.length) :: news') →
            wpAny (model prog w) A (eval elt (compEnvC scope cl C env)) (CElt s₁.heap C I D oI (PySem.W.listOf ys.toArray ys.length) (fun y => if y = x then some v else none) (fun y news'' => J (i + 1) (ys ++ [y]) news'') { s₁ with heap := h, toks := tk }) E' { s₁ with heap := h, toks := tk }
          else J (i + 1) ys news') { s₁ with heap := h, toks := tk }) E' { s₁ with heap := h, toks := tk })
    (done : ∀ D h tk ys news, J its.size ys news → Fr h₀ env.locals h (fun z => if z = y₀ then some (.ref D) else m₀ z) → News h₀ env.locals h ((D, PySem.W.listOf ys.toArray ys.length) :: (news ++ news₀)) → (∀ p ∈ news, p.1 ≠ D) → s₁.heap.get? D = none → Q { s₁ with heap := h, toks := tk })
    (hy : env.kindOf y₀ = some .local := by rfl) (hp : (env.scope.kind == .class || (env.scope.kind == .module && env.locals != env.globals)) = false := by rfl)
    (hkind : scope.kind = .function := by rfl) (hx : scope.names.lookup x = some .local := by rfl) (hcell : ∀ y ∈ scope.names, y.2 ≠ .cell := by decide) :
    CompAtU (some (assign (.Name y₀ py) env)) prog w A env elt iter (.Name x px) ifs scope cl pos (fun _ s' => Q s') E (.ref l) s₁ := by
  unfold CompAtU
  obtain ⟨ol, hol, _⟩ := id hl
  have hlt := Heap.lt_size hol
  refine wpAny_pyIter_tuple hl ?_
  refine comp_coreU J hcell hkind hx (Walks.tuple hh s₁.heap.objs.size l (Nat.ne_of_lt hlt) its) hsz ?_ rfl (fun i h st => by obtain ⟨o, e, _⟩ := st.1; exact ⟨o, e⟩)
    ⟨⟨_, Heap.get?_push_size _ rfl, rfl, rfl⟩, hl.push _⟩ h0 (fun i v ys news C D oI h tk E' hi hP hJ F N ha hd => test i v ys news _ C D oI h tk E' hP hJ F N ha hd) (fun D C h tk ys news m' f hJ F N hne => fin_assign F₀ N₀ hy hp F N fun h tk F' N' => done D h tk ys news hJ F' N' hne (N _ (.head _)).2.2)
  intro b hb
  rcases List.mem_cons.mp hb with rfl | hb
  · exact .inl rfl
  · rw [List.mem_singleton.mp hb]; exact .inr ⟨_, hol⟩


end
theorem fold_snoc {α β : Type} {l : List α} {j : Nat} {x : α} {f : β → α → β} {b : β} (h : l[j]? = some x) : (l.take (j + 1)).foldl f b = f ((l.take j).foldl f b) x := by
  rw [List.take_add_one, h, List.foldl_append]; rfl

theorem others_len_eq {g : List Int} : (othersOf g).length = g.length := by
  unfold othersOf
  induction g with
  | nil => rfl
  | cons a r ih =>
    rw [List.flatMap_cons, List.length_append, List.length_cons]
    have : ((if a < 256 then [a + 3] else []) ++ (if a ≥ 256 then [a - 3] else [])).length = 1 := by
      by_cases h : a < 256
      · rw [if_pos h, if_neg (by omega)]; rfl
      · rw [if_neg h, if_pos (by omega)]; rfl
    omega

theorem spareOf_len {g c : List Int} {a : Int} : ∀ {k : Nat}, (spareOf g c a k).length ≤ c.length + k
  | 0 => List.length_filter_le _ _
  | k + 1 => by
    have := spareOf_len (g := g) (c := c) (a := a) (k := k)
    unfold spareOf
    split
    · rw [List.length_append, List.length_singleton]; omega
    · omega

theorem toNat0 {k : Nat} : (0 + (k : Int)).toNat = k := by omega
theorem spare_in {g c : List Int} {a : Int} {k : Nat} (h : ((spareOf g c a k).any fun x => x == g.getD (0 + (k : Int)).toNat 0) = true) : spareOf g c a (k + 1) = spareOf g c a k := by
  rw [any_mem, decide_eq_true_iff, toNat0] at h
  show (if _ then _ else _) = _
  rw [if_neg (fun z => z.2 h)]
theorem spare_eq {g c : List Int} {a : Int} {k : Nat} (h : (othersOf g).getD (0 + (k : Int)).toNat 0 = a) : spareOf g c a (k + 1) = spareOf g c a k := by
  rw [toNat0] at h
  show (if _ then _ else _) = _
  rw [if_neg (fun z => z.1 h)]
theorem spare_new {g c : List Int} {a : Int} {k : Nat} (h : (othersOf g).getD (0 + (k : Int)).toNat 0 ≠ a) (h2 : ((spareOf g c a k).any fun x => x == g.getD (0 + (k : Int)).toNat 0) = false) : spareOf g c a (k + 1) = spareOf g c a k ++ [g.getD (0 + (k : Int)).toNat 0] := by
  rw [any_mem, decide_eq_false_iff_not, toNat0] at h2
  rw [toNat0] at h ⊢
  show (if _ then _ else _) = _
  rw [if_pos ⟨h, h2⟩]

section
variable {prog : Program} {w : World} {A : Around} {E : Value → Shared → Prop} {s : Shared} {g : Heap} {L : Addr} {m : Str → Option Value}
theorem append_2 {D : Addr} {b : Addr × Obj} {RS : List (Addr × Obj)} {vs : List Value} {n : Nat} {x : Value} {Q : Value → Shared → Prop} (F : Fr g L s.heap m) (N : News g L s.heap (b :: (D, W.listOf vs.toArray n) :: RS)) (hsz : vs.length ≤ 1000) (hb : @Ne Nat D b.1) (hR : ∀ p ∈ RS, @Ne Nat p.1 D)
    (h : ∀ h', Fr g L h' m → News g L h' (b :: (D, W.listOf (vs ++ [x]).toArray (n + 1)) :: RS) → Q .none { s with heap := h' }) : wpAny (model prog w) A (call (.builtin "list.append") [.ref D, x]) Q E s := by
  refine append_any F N (.tail _ (.head _)) hsz (b :: (D, W.listOf (vs ++ [x]).toArray (n + 1)) :: RS) (fun p hp => ?_) h
  rcases List.mem_cons.mp hp with rfl | hp
  · exact .inr ⟨.head _, Ne.symm hb⟩
  · rcases List.mem_cons.mp hp with rfl | hp
    · exact .inl rfl
    · exact .inr ⟨.tail _ (.tail _ hp), hR p hp⟩
end

theorem found_end {a b c d e f : Addr × Obj} {Ms : List (Addr × Obj)} {fr cs ex : List (Addr × List Value)} (hfe : ∀ r ∈ fr, r ∈ ex) (hce : ∀ r ∈ cs, r ∈ ex) {p : Addr × Obj} (hp : p ∈ Ms ++ (a :: e :: f :: (fr.map rowObj ++ cs.map rowObj))) :
    p ∈ a :: b :: (Ms ++ (c :: d :: e :: f :: ex.map rowObj)) := by
  simp only [List.mem_append, List.mem_cons] at hp ⊢
  rcases hp with h | h | h | h | h | h
  · simp only [h, true_or, or_true]
  · exact .inl h
  · simp only [h, true_or, or_true]
  · simp only [h, true_or, or_true]
  · obtain ⟨r', hr', e⟩ := List.mem_map.mp h
    exact .inr (.inr (.inr (.inr (.inr (.inr (.inr (List.mem_map.mpr ⟨r', hfe r' hr', e⟩)))))))
  · obtain ⟨r', hr', e⟩ := List.mem_map.mp h
    exact .inr (.inr (.inr (.inr (.inr (.inr (.inr (List.mem_map.mpr ⟨r', hce r' hr', e⟩)))))))

end
/-! C_found -/
section
theorem fc {α : Type} {P : α → Prop} {a : α} {l : List α} (h : P a) (t : ∀ p ∈ l, P p) : ∀ p ∈ a :: l, P p := fun p hp => (List.mem_cons.mp hp).elim (fun e => e ▸ h) (t p)
theorem fa {α : Type} {P : α → Prop} {l₁ l₂ : List α} (h : ∀ p ∈ l₁, P p) (t : ∀ p ∈ l₂, P p) : ∀ p ∈ l₁ ++ l₂, P p := fun p hp => (List.mem_append.mp hp).elim (h p) (t p)
noncomputable def bj {α : Type} : List (List α) → List α
  | [] => []
  | [a] => a
  | a :: b :: r => a ++ bj (b :: r)
theorem mem_bj {α : Type} {p : α} : ∀ {B : List (List α)}, p ∈ bj B ↔ ∃ a ∈ B, p ∈ a
  | [] => ⟨fun h => (nomatch h), fun ⟨_, h, _⟩ => (nomatch h)⟩
  | [a] => ⟨fun h => ⟨a, .head _, h⟩, fun ⟨_, h, q⟩ => by rcases List.mem_singleton.mp h with rfl; exact q⟩
  | a :: b :: r => by
    show p ∈ a ++ bj (b :: r) ↔ _
    rw [List.mem_append, mem_bj (B := b :: r)]
    constructor
    · rintro (h | ⟨c, hc, q⟩)
      · exact ⟨a, .head _, h⟩
      · exact ⟨c, .tail _ hc, q⟩
    · rintro ⟨c, hc, q⟩
      rcases List.mem_cons.mp hc with rfl | hc
      · exact .inl q
      · exact .inr ⟨c, hc, q⟩
/-- what lies in some of the blocks lies in a list that has all of them -/
theorem bsub {α : Type} (B : List (List α)) (I J : List Nat) (h : J.all (fun j => I.contains j) = true) {p : α} (hp : p ∈ bj (J.map fun j => B.getD j [])) : p ∈ bj (I.map fun j => B.getD j []) := by
  obtain ⟨a, ha, q⟩ := mem_bj.mp hp
  obtain ⟨j, hj, rfl⟩ := List.mem_map.mp ha
  have z := List.all_eq_true.mp h j hj
  exact mem_bj.mpr ⟨_, List.mem_map.mpr ⟨j, by simpa using z, rfl⟩, q⟩
theorem pm_1 {α : Type} {p e0 e1 e2 e4 e5 e6 : α} {L3 L7 : List α} (h : p ∈ e0 :: e1 :: e2 :: (L3 ++ (e4 :: e5 :: e6 :: L7))) : p ∈ e1 :: e2 :: (L3 ++ (e4 :: e0 :: e5 :: e6 :: L7)) :=
  bsub [[e0], [e1], [e2], L3, [e4], [e5], [e6], L7] [1, 2, 3, 4, 0, 5, 6, 7] [0, 1, 2, 3, 4, 5, 6, 7] rfl h
theorem pm_2 {α : Type} {p e0 e1 e2 e3 e5 e6 e7 e9 e10 e11 : α} {L4 L8 : List α} (h : p ∈ e0 :: e1 :: e2 :: e3 :: (L4 ++ (e5 :: e6 :: e7 :: L8))) : p ∈ e5 :: e9 :: e10 :: e11 :: e0 :: e1 :: e2 :: e3 :: (L4 ++ (e6 :: e7 :: L8)) :=
  bsub [[e0], [e1], [e2], [e3], L4, [e5], [e6], [e7], L8, [e9], [e10], [e11]] [5, 9, 10, 11, 0, 1, 2, 3, 4, 6, 7, 8] [0, 1, 2, 3, 4, 5, 6, 7, 8] rfl h
theorem pm_3 {α : Type} {p e0 e1 e2 e3 e4 e5 e7 e8 e10 e11 e12 e13 e14 : α} {L6 L9 : List α} (h : p ∈ e0 :: e1 :: e2 :: e3 :: e4 :: e5 :: (L6 ++ (e7 :: e8 :: L9))) : p ∈ e0 :: e10 :: e11 :: e7 :: e12 :: e13 :: e14 :: e2 :: e3 :: e4 :: e5 :: (L6 ++ (e1 :: e8 :: L9)) :=
  bsub [[e0], [e1], [e2], [e3], [e4], [e5], L6, [e7], [e8], L9, [e10], [e11], [e12], [e13], [e14]] [0, 10, 11, 7, 12, 13, 14, 2, 3, 4, 5, 6, 1, 8, 9] [0, 1, 2, 3, 4, 5, 6, 7, 8, 9] rfl h
theorem pm_4 {α : Type} {p e0 e1 e2 e3 e5 e6 e7 e9 : α} {L4 L8 : List α} (h : p ∈ e0 :: e1 :: e2 :: e3 :: (L4 ++ (e5 :: e6 :: e7 :: L8))) : p ∈ e9 :: e6 :: e0 :: e1 :: e2 :: e3 :: (L4 ++ (e5 :: e7 :: L8)) :=
  bsub [[e0], [e1], [e2], [e3], L4, [e5], [e6], [e7], L8, [e9]] [9, 6, 0, 1, 2, 3, 4, 5, 7, 8] [0, 1, 2, 3, 4, 5, 6, 7, 8] rfl h
theorem pm_5 {α : Type} {p e1 e2 e3 e4 e5 e6 e7 e8 : α} {L0 L9 : List α} (h : p ∈ L0 ++ (e1 :: e2 :: e3 :: e4 :: e5 :: e6 :: e7 :: e8 :: L9)) : p ∈ e1 :: e7 :: e2 :: e3 :: e4 :: e5 :: (L0 ++ (e6 :: e8 :: L9)) :=
  bsub [L0, [e1], [e2], [e3], [e4], [e5], [e6], [e7], [e8], L9] [1, 7, 2, 3, 4, 5, 0, 6, 8, 9] [0, 1, 2, 3, 4, 5, 6, 7, 8, 9] rfl h
theorem pm_7 {α : Type} {p e0 e1 e2 e3 e5 e6 : α} {L4 L7 : List α} (h : p ∈ e0 :: e1 :: e2 :: e3 :: (L4 ++ (e5 :: e6 :: L7))) : p ∈ e0 :: e2 :: e3 :: (L4 ++ (e5 :: e6 :: e1 :: L7)) :=
  bsub [[e0], [e1], [e2], [e3], L4, [e5], [e6], L7] [0, 2, 3, 4, 5, 6, 1, 7] [0, 1, 2, 3, 4, 5, 6, 7] rfl h
theorem pm_8 {α : Type} {p e0 e2 e3 e4 e5 e7 : α} {L1 L6 : List α} (h : p ∈ e0 :: (L1 ++ (e2 :: e3 :: e4 :: e5 :: L6))) : p ∈ e3 :: e5 :: e7 :: e0 :: (L1 ++ (e2 :: e4 :: L6)) :=
  bsub [[e0], L1, [e2], [e3], [e4], [e5], L6, [e7]] [3, 5, 7, 0, 1, 2, 4, 6] [0, 1, 2, 3, 4, 5, 6] rfl h
theorem c_found {prog : Program} {w : World} {A : Around} {s : Shared} {R : Result → Shared → Prop} {p : Program} {loose : List Str} {mg mb : Str → Option Value}
    (h1 : A.handled = none) (h2 : A.depth ≤ 550) (h3 : A.units ≤ 250) {a : Lx} {i n : Nat} {tl₀ ti₀ : Tok} {l : List Nat} {q : Piece} {ps : List Piece} {lc : Addr} {cs : List (Addr × List Value)} {cls : List (List Int)} (ok : a.Ok w) (okp : a.pb ∉ (a.M w 0 0 0).map (·.1)) (hR : Rem a.tx i l) (hA : After l (q :: ps)) (hq : q.Ok)
    (hcs : RowsAre cs cls) (hcl : ∀ c ∈ cls, c ∈ all27) (hlen : cls.length ≤ 4)
    (hM : ∀ p ∈ a.MP w i tl₀ ti₀ [] n ++ cs.map rowObj, s.heap.get? p.1 = some p.2)
    (X : (hd.heap_1 w.params).In (hidden s.heap (a.MP w i tl₀ ti₀ [] n ++ cs.map rowObj))) (T : TopRead p loose mg mb (hidden s.heap (a.MP w i tl₀ ti₀ [] n ++ cs.map rowObj)))
    (hlc : (hidden s.heap (a.MP w i tl₀ ti₀ [] n ++ cs.map rowObj)).IsList lc (refs cs).toArray)
    (h : ∀ (lr lF lK : Addr) (U : Str) (tv : Tok) (frows : List (Addr × List Value)) (k nF nK n' j : Nat) (tl ti : Tok) (l' : List Nat) h' tk, (hidden s.heap (a.MP w i tl₀ ti₀ [] n ++ cs.map rowObj)).StaysIn h' → Rem a.tx j l' → After l' ps → U.cps.toList = plain q.es → RowsAre frows (FF cls k) → (FF cls k).length = k → Good (FF cls k) →
      (∀ p ∈ a.MP w j tl ti [] n' ++ ((lr, tupO [.str U tv, .ref lF, .ref lK]) :: (lF, W.listOf (refs frows).toArray nF) :: (lK, W.listOf (refs frows).toArray nK) :: (frows.map rowObj ++ cs.map rowObj)), h'.get? p.1 = some p.2 ∧ (hidden s.heap (a.MP w i tl₀ ti₀ [] n ++ cs.map rowObj)).get? p.1 = none) →
      R (.ok (.ret (.ref lr))) { s with heap := h', toks := tk }) :
    codeAny (model prog w) A (.call (.ref 199) ⟨[.ref a.x, .ref lc], []⟩) R s := by
  refine code_weak (d := 550) (u := 250) (by assumption) (by assumption) (by assumption) ?_
  refine' enterC (by assumption) (TopRead.nolimit (by assumption)) (fun _ _ e => of_hideAll _ e) (Nat.le_of_eq (hideAll_size _ _)) (enterM_news hM) ?ho ?hcd ?hroom ?hb ?hkind ?hnd ?_ ?e1 ?e2 ?e3
  (case ho => k_is); (case hcd => k_is); (case hroom => decide); (case hb => exact BindsTo.of_eq rfl); (case hkind => exact rfl); (case hnd => decide +kernel)
  (case e1 => exact rfl); (case e2 => exact rfl); (case e3 => exact rfl)
  intro L' h₁ tk' cells' F' N' Y' l1 hL'; (try k_lt l1); k_cells Y'; (try simp only [List.cons_append, List.nil_append] at N'); (try dsimp only); (show wpAny _ _ _ _ _ _); k_fold
  unfold hidden at X T hlc h
  have hgE : hidden s.heap (a.MP w i tl₀ ti₀ [] n ++ cs.map rowObj) = hideAll s.heap (List.map (fun x => x.fst) (a.MP w i tl₀ ti₀ [] n ++ cs.map rowObj)) := rfl
  generalize hg : hideAll s.heap (List.map (fun x => x.fst) (a.MP w i tl₀ ti₀ [] n ++ cs.map rowObj)) = g at *
  replace F' : Fr g L' h₁ (fun y => if y = Str.ofString "clauses" then some (Value.ref lc) else if y = Str.ofString "lexer" then some (Value.ref a.x) else none) := F'
  rename_i oA oC dA dC
  obtain ⟨vA, dA⟩ : ∃ v, oA.data = Data.cell v := ⟨_, dA⟩
  obtain ⟨vC, dC⟩ : ∃ v, oC.data = Data.cell v := ⟨_, dC⟩
  have okl : ∀ b ∈ (a.MP w 0 0 0 [] 0).map (·.1), @LT.lt Nat _ b L' := by
    intro b hb
    rw [Lx.MP_keys (j := i) (tl' := tl₀) (ti' := ti₀) (vs' := []) (n' := n)] at hb
    obtain ⟨q, hq, rfl⟩ := List.mem_map.mp hb
    exact l1 q (List.mem_append_left _ hq)
  replace N' : News g L' h₁ ([(L' + 1 + 1, oA), (L' + 1, oC)] ++ (a.MP w i tl₀ ti₀ [] n ++ cs.map rowObj)) := N'
  ((try ((with_reducible show wpAny _ _ (execs _ _) _ _ _); (fail_if_success (with_reducible show wpAny _ _ _ Qh _ _)); refine hideQ ?_; intro Qh hQh)); repeat' ((fail_if_success (with_reducible show wpAny _ _ (exec (PySem.Stmt.Assign _ (PySem.Expr.ListComp _ _ _ _) _) _) _ _ _)); (fail_if_success (with_reducible show wpAny _ _ (exec (PySem.Stmt.For _ _ _ _ _) _) _ _ _)); (fail_if_success (with_reducible show wpAny _ _ (eval (PySem.Expr.ListComp _ _ _ _) _) _ _ _)); (fail_if_success (with_reducible show wpAny _ _ (call (Value.builtin "iter") _ _) _ _ _)); (fail_if_success (with_reducible show wpAny _ _ (call (Value.ref _) _ _) _ _ _)); (first | walk1 | (dsimp only; walk1) | (with_reducible apply Hid.use; with_reducible assumption))))
  refine For_ ?_
  ((try ((with_reducible show wpAny _ _ (execs _ _) _ _ _); (fail_if_success (with_reducible show wpAny _ _ _ Qh _ _)); refine hideQ ?_; intro Qh hQh)); repeat' ((fail_if_success (with_reducible show wpAny _ _ (exec (PySem.Stmt.Assign _ (PySem.Expr.ListComp _ _ _ _) _) _) _ _ _)); (fail_if_success (with_reducible show wpAny _ _ (exec (PySem.Stmt.For _ _ _ _ _) _) _ _ _)); (fail_if_success (with_reducible show wpAny _ _ (eval (PySem.Expr.ListComp _ _ _ _) _) _ _ _)); (fail_if_success (with_reducible show wpAny _ _ (call (Value.builtin "iter") _ _) _ _ _)); (fail_if_success (with_reducible show wpAny _ _ (call (Value.ref _) _ _) _ _ _)); (first | walk1 | (dsimp only; walk1) | (with_reducible apply Hid.use; with_reducible assumption))))
  (try (with_reducible apply Hid.use; with_reducible assumption)); (try dsimp only)
  rename Fr _ _ _ _ => F1
  rename News _ _ _ _ => N1
  rename_i lF _ l2 _
  have okA : ∀ b ∈ (a.MP w 0 0 0 [] 0).map (·.1), @Ne Nat (L' + 1 + 1) b := fun b hb e => by have := okl b hb; omega
  have okC : ∀ b ∈ (a.MP w 0 0 0 [] 0).map (·.1), @Ne Nat (L' + 1) b := fun b hb e => by have := okl b hb; omega
  have ltF : @LT.lt Nat _ (L' + 1 + 1) lF := l2 _ (.head _)
  have okF : ∀ b ∈ (a.MP w 0 0 0 [] 0).map (·.1), @Ne Nat lF b := fun b hb e => by have := okl b hb; omega
  have okR : ∀ r ∈ cs, @LT.lt Nat _ r.1 L' := fun r hr => l1 _ (List.mem_append_right _ (List.mem_map.mpr ⟨r, hr, rfl⟩))
  have okRk : ∀ r ∈ cs, r.1 ∉ (a.MP w 0 0 0 [] 0).map (·.1) := fun r hr => tup_off ok (fun p hp => hM p (List.mem_append_left _ hp)) (hM _ (List.mem_append_right _ (List.mem_map.mpr ⟨r, hr, rfl⟩)))
  have N2 : News g L' _ ((L' + 1, oC) :: (a.MP w i tl₀ ti₀ (refs []) n ++ ((L' + 1 + 1, oA) :: (lF, W.listOf (refs []).toArray 0) :: cs.map rowObj))) := N1.perm (fun p hp => by
    simp only [List.mem_cons, List.mem_append, List.not_mem_nil, or_false, refs, List.map_nil] at hp ⊢
    rcases hp with h | h | h | h | h <;> simp only [h, true_or, or_true])
  clear N1
  have lcC : @Ne Nat lc (L' + 1) := by
    obtain ⟨o, e, _⟩ := hlc
    have h1 : @LE.le Nat _ g.objs.size L' := F1.above
    have h2 : @LT.lt Nat _ lc g.objs.size := Heap.lt_size e
    omega
  have nCA : @Ne Nat (L' + 1 + 1) (L' + 1) := by omega
  have nCF : @Ne Nat lF (L' + 1) := by omega
  have apC : ∀ j tl ti vs pn oA o rows, (∀ r ∈ rows, @Ne Nat r.1 (L' + 1)) → ∀ p ∈ a.MP w j tl ti vs pn ++ ((L' + 1 + 1, oA) :: (lF, o) :: List.map rowObj rows), @Ne Nat p.1 (L' + 1) := by
    intro j tl ti vs pn oA o rows hr
    refine fa (fun p hp => ?_) (fc ?_ (fc ?_ (fun p hp => ?_)))
    · exact mp_apart okC p hp
    · exact nCA
    · exact nCF
    · obtain ⟨r, hr1, rfl⟩ := List.mem_map.mp hp; exact hr r hr1
  have okRC : ∀ r ∈ cs, @Ne Nat r.1 (L' + 1) := fun r hr e => by have := okR r hr; omega
  have apF : ∀ j tl ti vs pn oA rows, (∀ r ∈ rows, @Ne Nat r.1 lF) → ∀ p ∈ a.MP w j tl ti vs pn ++ ((L' + 1 + 1, oA) :: List.map rowObj rows), @Ne Nat p.1 lF := by
    intro j tl ti vs pn oA rows hr
    refine fa (fun p hp => ?_) (fc ?_ (fun p hp => ?_))
    · exact mp_apart okF p hp
    · exact Nat.ne_of_lt ltF
    · obtain ⟨r, hr1, rfl⟩ := List.mem_map.mp hp; exact hr r hr1
  refine for_listC (src := []) (c := L' + 1) (its := (refs cs).toArray)
    (fun k m news => Ex3 fun (fr : List (Addr × List Value)) (pn nF : Nat) => A4 (news = a.MP w i tl₀ ti₀ (refs fr) pn ++ ((L' + 1 + 1, oA) :: (lF, W.listOf (refs fr).toArray nF) :: cs.map rowObj)) (RowsAre fr (ddOf (cls.take k))) ((∀ r ∈ fr, r ∈ cs)) (gotN m [((PySem.Str.ofString "found"), Value.ref lF), ((PySem.Str.ofString "clauses"), Value.ref lc), ((PySem.Str.ofString "lexer"), Value.ref a.x)] = wantN [((PySem.Str.ofString "found"), Value.ref lF), ((PySem.Str.ofString "clauses"), Value.ref lc), ((PySem.Str.ofString "lexer"), Value.ref a.x)]))
    rfl F1 N2 dC (apC _ _ _ _ _ _ _ _ okRC) lcC (.inl ⟨hlc, rfl⟩) (fun _ _ _ _ p hp => by cases hp) ⟨[], n, 0, rfl, .nil, (fun r hr => by cases hr), ?hm0⟩ ?turn ?done
  case hm0 =>
    rfl
  case turn =>
    rintro k v m news I oI oc h1 tk E' hcI hoc hv ⟨fr, pn, nF, rfl, hfr, hsub, hm⟩ F3 N3 ha hCI hfI
    clear F1 N2
    replace F3 := frNamesE' _ F3 hm
    obtain ⟨r, hrk, rfl⟩ : ∃ r, cs[k]? = some r ∧ v = .ref r.1 := by
      have : (refs cs)[k]? = some v := by simpa using hv
      unfold refs at this
      rw [List.getElem?_map] at this
      obtain ⟨r, e1, e2⟩ := Option.map_eq_some_iff.mp this
      exact ⟨r, e1, e2.symm⟩
    obtain ⟨c, hck, hic⟩ := hcs.at hrk
    have hrm := List.mem_of_getElem? hrk
    have hgood : Good (ddOf (cls.take k)) := good_dd Good.nil fun c hc => hcl c (List.mem_of_mem_take hc)
    have hfl := hgood.len
    have hflen := hfr.length
    have hdd := dd_snoc hck
    dsimp only [Lx.MP, Lx.M, Lx.dO, Lx.eO, List.cons_append, List.nil_append] at N3
    ((try ((with_reducible show wpAny _ _ (execs _ _) _ _ _); (fail_if_success (with_reducible show wpAny _ _ _ Qh _ _)); refine hideQ ?_; intro Qh hQh)); repeat' ((fail_if_success (with_reducible show wpAny _ _ (exec (PySem.Stmt.Assign _ (PySem.Expr.ListComp _ _ _ _) _) _) _ _ _)); (fail_if_success (with_reducible show wpAny _ _ (exec (PySem.Stmt.For _ _ _ _ _) _) _ _ _)); (fail_if_success (with_reducible show wpAny _ _ (eval (PySem.Expr.ListComp _ _ _ _) _) _ _ _)); (fail_if_success (with_reducible show wpAny _ _ (call (Value.builtin "isinstance") _ _) _ _ _)); (fail_if_success (with_reducible show wpAny _ _ (call (Value.builtin "list.append") _ _) _ _ _)); (fail_if_success (with_reducible show wpAny _ _ (compareOp CmpOp.NotIn (Value.ref _) (Value.ref _)) _ _ _)); (fail_if_success (with_reducible show wpAny _ _ (call (Value.ref _) _ _) _ _ _)); (first | walk1 | (dsimp only; walk1) | (with_reducible apply Hid.use; with_reducible assumption))))
    rename Fr _ _ _ _ => F4
    rename News _ _ _ _ => N4
    replace N4 : News g L' _ ((I, oI) :: (L' + 1, oc) :: (a.MP w i tl₀ ti₀ (refs fr) pn ++ ((L' + 1 + 1, oA) :: (lF, W.listOf (refs fr).toArray nF) :: cs.map rowObj))) := N4
    have mF : (lF, W.listOf (refs fr).toArray nF) ∈ ((I, oI) :: (L' + 1, oc) :: (a.MP w i tl₀ ti₀ (refs fr) pn ++ ((L' + 1 + 1, oA) :: (lF, W.listOf (refs fr).toArray nF) :: cs.map rowObj))) := .tail _ (.tail _ (List.mem_append_right _ (.tail _ (.head _))))
    have mR : ∀ r ∈ cs, rowObj r ∈ ((I, oI) :: (L' + 1, oc) :: (a.MP w i tl₀ ti₀ (refs fr) pn ++ ((L' + 1 + 1, oA) :: (lF, W.listOf (refs fr).toArray nF) :: cs.map rowObj))) := fun r hr => .tail _ (.tail _ (List.mem_append_right _ (.tail _ (.tail _ (List.mem_map.mpr ⟨r, hr, rfl⟩)))))
    refine notin_rows (rows := fr) (Nat.le_of_ble_eq_true rfl) (News.get N4 mF) (fun r hr => News.get N4 (mR r (hsub r hr))) hfr (News.get N4 (mR r hrm)) hic ?_
    by_cases hin : c ∈ ddOf (cls.take k)
    · rw [decide_eq_false (p := c ∉ ddOf (cls.take k)) (fun z => z hin)]
      ((try ((with_reducible show wpAny _ _ (execs _ _) _ _ _); (fail_if_success (with_reducible show wpAny _ _ _ Qh _ _)); refine hideQ ?_; intro Qh hQh)); repeat' ((fail_if_success (with_reducible show wpAny _ _ (exec (PySem.Stmt.Assign _ (PySem.Expr.ListComp _ _ _ _) _) _) _ _ _)); (fail_if_success (with_reducible show wpAny _ _ (exec (PySem.Stmt.For _ _ _ _ _) _) _ _ _)); (fail_if_success (with_reducible show wpAny _ _ (eval (PySem.Expr.ListComp _ _ _ _) _) _ _ _)); (fail_if_success (with_reducible show wpAny _ _ (call (Value.builtin "isinstance") _ _) _ _ _)); (fail_if_success (with_reducible show wpAny _ _ (call (Value.builtin "list.append") _ _) _ _ _)); (fail_if_success (with_reducible show wpAny _ _ (compareOp CmpOp.NotIn (Value.ref _) (Value.ref _)) _ _ _)); (fail_if_success (with_reducible show wpAny _ _ (call (Value.ref _) _ _) _ _ _)); (first | walk1 | (dsimp only; walk1) | (with_reducible apply Hid.use; with_reducible assumption))))
      (try (with_reducible apply Hid.use; with_reducible assumption)); (try dsimp only)
      refine TurnC.next (a.MP w i tl₀ ti₀ (refs fr) pn ++ ((L' + 1 + 1, oA) :: (lF, W.listOf (refs fr).toArray nF) :: cs.map rowObj)) hoc (by k_asm) N4 (fun p hp => hp) ha ⟨fr, pn, nF, rfl, ?_, hsub, ?_⟩
      · rw [hdd, addNew, if_pos hin]; exact hfr
      · rfl
    · rw [decide_eq_true (p := c ∉ ddOf (cls.take k)) hin]
      have N5 := N4
      dsimp only [Lx.MP, Lx.M, Lx.dO, Lx.eO, List.cons_append, List.nil_append] at N5
      clear N4
      ((try ((with_reducible show wpAny _ _ (execs _ _) _ _ _); (fail_if_success (with_reducible show wpAny _ _ _ Qh _ _)); refine hideQ ?_; intro Qh hQh)); repeat' ((fail_if_success (with_reducible show wpAny _ _ (exec (PySem.Stmt.Assign _ (PySem.Expr.ListComp _ _ _ _) _) _) _ _ _)); (fail_if_success (with_reducible show wpAny _ _ (exec (PySem.Stmt.For _ _ _ _ _) _) _ _ _)); (fail_if_success (with_reducible show wpAny _ _ (eval (PySem.Expr.ListComp _ _ _ _) _) _ _ _)); (fail_if_success (with_reducible show wpAny _ _ (call (Value.builtin "isinstance") _ _) _ _ _)); (fail_if_success (with_reducible show wpAny _ _ (call (Value.builtin "list.append") _ _) _ _ _)); (fail_if_success (with_reducible show wpAny _ _ (compareOp CmpOp.NotIn (Value.ref _) (Value.ref _)) _ _ _)); (fail_if_success (with_reducible show wpAny _ _ (call (Value.ref _) _ _) _ _ _)); (first | walk1 | (dsimp only; walk1) | (with_reducible apply Hid.use; with_reducible assumption))))
      rename Fr _ _ _ _ => F6
      rename News _ _ _ _ => N6
      replace N6 : News g L' _ ((I, oI) :: (L' + 1, oc) :: (a.MP w i tl₀ ti₀ (refs fr) pn ++ ((L' + 1 + 1, oA) :: (lF, W.listOf (refs fr).toArray nF) :: cs.map rowObj))) := N6
      refine append_any (x := .ref r.1) F6 N6 mF (by rw [refs_len]; omega) ((I, oI) :: (L' + 1, oc) :: (a.MP w i tl₀ ti₀ (refs fr) pn ++ ((L' + 1 + 1, oA) :: (lF, W.listOf (refs fr ++ [Value.ref r.1]).toArray (nF + 1)) :: cs.map rowObj))) (fun p hp => ?_) ?_
      · simp only [List.mem_cons, List.mem_append] at hp
        rcases hp with rfl | rfl | hp | rfl | rfl | hp
        · exact .inr ⟨.head _, Ne.symm (ha _ (List.mem_append_right _ (.tail _ (.head _)))).1⟩
        · exact .inr ⟨.tail _ (.head _), Ne.symm nCF⟩
        · exact .inr ⟨.tail _ (.tail _ (List.mem_append_left _ hp)), mp_apart okF p hp⟩
        · exact .inr ⟨.tail _ (.tail _ (List.mem_append_right _ (.head _))), Nat.ne_of_lt ltF⟩
        · exact .inl rfl
        · refine .inr ⟨.tail _ (.tail _ (List.mem_append_right _ (.tail _ (.tail _ hp)))), ?_⟩
          obtain ⟨r', hr', rfl⟩ := List.mem_map.mp hp
          have h1 := okR r' hr'
          exact fun e => by
            have h2 : @Eq Nat r'.1 lF := e
            omega
      intro h5 F7 N7
      clear F6 N6
      rw [refs_snoc] at N7
      dsimp only [Lx.MP, Lx.M, Lx.dO, Lx.eO, List.cons_append, List.nil_append] at N7
      ((try ((with_reducible show wpAny _ _ (execs _ _) _ _ _); (fail_if_success (with_reducible show wpAny _ _ _ Qh _ _)); refine hideQ ?_; intro Qh hQh)); repeat' ((fail_if_success (with_reducible show wpAny _ _ (exec (PySem.Stmt.Assign _ (PySem.Expr.ListComp _ _ _ _) _) _) _ _ _)); (fail_if_success (with_reducible show wpAny _ _ (exec (PySem.Stmt.For _ _ _ _ _) _) _ _ _)); (fail_if_success (with_reducible show wpAny _ _ (eval (PySem.Expr.ListComp _ _ _ _) _) _ _ _)); (fail_if_success (with_reducible show wpAny _ _ (call (Value.builtin "isinstance") _ _) _ _ _)); (fail_if_success (with_reducible show wpAny _ _ (call (Value.builtin "list.append") _ _) _ _ _)); (fail_if_success (with_reducible show wpAny _ _ (compareOp CmpOp.NotIn (Value.ref _) (Value.ref _)) _ _ _)); (fail_if_success (with_reducible show wpAny _ _ (call (Value.ref _) _ _) _ _ _)); (first | walk1 | (dsimp only; walk1) | (with_reducible apply Hid.use; with_reducible assumption))))
      rename Fr _ _ _ _ => F8
      rename News _ _ _ _ => N8
      refine wpAny_call (push_call (a := a) (i := i) (tl := tl₀) (ti := ti₀) (n := pn) (vs := refs fr) (v := .ref r.1) (rest := (I, oI) :: (L' + 1, oc) :: ((L' + 1 + 1, oA) :: (lF, W.listOf (refs (fr ++ [r])).toArray (nF + 1)) :: cs.map rowObj)) ok okp (by rw [refs_len]; omega) rfl (Nat.le_of_ble_eq_true rfl) (Nat.le_of_ble_eq_true rfl) X T F8 (lay2 (Ms := a.MP w i tl₀ ti₀ (refs fr) pn) N8) (fun p hp => ?_) ?_)
      · simp only [List.mem_cons] at hp
        rcases hp with rfl | rfl | rfl | rfl | hp
        · intro hm
          rw [Lx.MP_keys (j := i) (tl' := tl₀) (ti' := ti₀) (vs' := refs fr) (n' := pn)] at hm
          obtain ⟨p, hp, e⟩ := List.mem_map.mp hm
          exact (ha p (List.mem_append_left _ hp)).1 e
        · exact fun hm => okC _ hm rfl
        · exact fun hm => okA _ hm rfl
        · exact fun hm => okF _ hm rfl
        · obtain ⟨r', hr', rfl⟩ := List.mem_map.mp hp
          exact okRk r' hr'
      intro h6 tk6 pn' F9 N9
      rw [refs_snoc] at N9
      replace N9 := unlay2 N9
      (try (with_reducible apply Hid.use; with_reducible assumption)); (try dsimp only)
      clear F8 N8
      ((try ((with_reducible show wpAny _ _ (execs _ _) _ _ _); (fail_if_success (with_reducible show wpAny _ _ _ Qh _ _)); refine hideQ ?_; intro Qh hQh)); repeat' ((fail_if_success (with_reducible show wpAny _ _ (exec (PySem.Stmt.Assign _ (PySem.Expr.ListComp _ _ _ _) _) _) _ _ _)); (fail_if_success (with_reducible show wpAny _ _ (exec (PySem.Stmt.For _ _ _ _ _) _) _ _ _)); (fail_if_success (with_reducible show wpAny _ _ (eval (PySem.Expr.ListComp _ _ _ _) _) _ _ _)); (fail_if_success (with_reducible show wpAny _ _ (call (Value.builtin "isinstance") _ _) _ _ _)); (fail_if_success (with_reducible show wpAny _ _ (call (Value.builtin "list.append") _ _) _ _ _)); (fail_if_success (with_reducible show wpAny _ _ (compareOp CmpOp.NotIn (Value.ref _) (Value.ref _)) _ _ _)); (fail_if_success (with_reducible show wpAny _ _ (call (Value.ref _) _ _) _ _ _)); (first | walk1 | (dsimp only; walk1) | (with_reducible apply Hid.use; with_reducible assumption))))
      (try (with_reducible apply Hid.use; with_reducible assumption)); (try dsimp only)
      refine TurnC.next (a.MP w i tl₀ ti₀ (refs (fr ++ [r])) pn' ++ ((L' + 1 + 1, oA) :: (lF, W.listOf (refs (fr ++ [r])).toArray (nF + 1)) :: cs.map rowObj)) hoc (by k_asm) N9 (fun p hp => hp) ?_ ⟨fr ++ [r], pn', nF + 1, rfl, ?_, ?_, ?_⟩
      · refine fa (fun p hp => ?_) (fc ?_ (fc ?_ (fun p hp => ?_)))
        · refine ⟨fun e => ?_, mp_apart okC p hp⟩
          have hm : p.1 ∈ (a.MP w i tl₀ ti₀ (refs fr) pn).map (·.1) := by
            rw [Lx.MP_keys (j := i) (tl' := tl₀) (ti' := ti₀) (vs' := refs (fr ++ [r])) (n' := pn')]
            exact List.mem_map.mpr ⟨p, hp, rfl⟩
          obtain ⟨p', hp', e'⟩ := List.mem_map.mp hm
          exact (ha p' (List.mem_append_left _ hp')).1 (e'.trans e)
        · exact ha _ (List.mem_append_right _ (.head _))
        · exact ha (lF, W.listOf (refs fr).toArray nF) (List.mem_append_right _ (.tail _ (.head _)))
        · exact ha p (List.mem_append_right _ (.tail _ (.tail _ hp)))
      · rw [hdd, addNew, if_neg hin]; exact hfr.append (.cons hic .nil)
      · intro r' hr'
        rcases List.mem_append.mp hr' with hr' | hr'
        · exact hsub r' hr'
        · rcases List.mem_singleton.mp hr' with rfl; exact hrm
      · rfl
  case done =>
    rintro m news oc vC' h1 tk ⟨fr, pn, nF, rfl, hfr, hsub, hm⟩ hoc hap F3 N3
    clear F1 N2
    replace F3 := frNamesE' _ F3 hm
    rw [List.size_toArray, refs_len, hcs.length, List.take_length] at hfr
    ((try ((with_reducible show wpAny _ _ (execs _ _) _ _ _); (fail_if_success (with_reducible show wpAny _ _ _ Qh _ _)); refine hideQ ?_; intro Qh hQh)); repeat' ((fail_if_success (with_reducible show wpAny _ _ (exec (PySem.Stmt.Assign _ (PySem.Expr.ListComp _ _ _ _) _) _) _ _ _)); (fail_if_success (with_reducible show wpAny _ _ (exec (PySem.Stmt.For _ _ _ _ _) _) _ _ _)); (fail_if_success (with_reducible show wpAny _ _ (eval (PySem.Expr.ListComp _ _ _ _) _) _ _ _)); (fail_if_success (with_reducible show wpAny _ _ (call (Value.builtin "isinstance") _ _) _ _ _)); (fail_if_success (with_reducible show wpAny _ _ (call (Value.builtin "list.append") _ _) _ _ _)); (fail_if_success (with_reducible show wpAny _ _ (compareOp CmpOp.NotIn (Value.ref _) (Value.ref _)) _ _ _)); (fail_if_success (with_reducible show wpAny _ _ (call (Value.ref _) _ _) _ _ _)); (first | walk1 | (dsimp only; walk1) | (with_reducible apply Hid.use; with_reducible assumption))))
    refine For_ ?_
    ((try ((with_reducible show wpAny _ _ (execs _ _) _ _ _); (fail_if_success (with_reducible show wpAny _ _ _ Qh _ _)); refine hideQ ?_; intro Qh hQh)); repeat' ((fail_if_success (with_reducible show wpAny _ _ (exec (PySem.Stmt.Assign _ (PySem.Expr.ListComp _ _ _ _) _) _) _ _ _)); (fail_if_success (with_reducible show wpAny _ _ (exec (PySem.Stmt.For _ _ _ _ _) _) _ _ _)); (fail_if_success (with_reducible show wpAny _ _ (eval (PySem.Expr.ListComp _ _ _ _) _) _ _ _)); (fail_if_success (with_reducible show wpAny _ _ (call (Value.builtin "isinstance") _ _) _ _ _)); (fail_if_success (with_reducible show wpAny _ _ (call (Value.builtin "list.append") _ _) _ _ _)); (fail_if_success (with_reducible show wpAny _ _ (compareOp CmpOp.NotIn (Value.ref _) (Value.ref _)) _ _ _)); (fail_if_success (with_reducible show wpAny _ _ (call (Value.ref _) _ _) _ _ _)); (first | walk1 | (dsimp only; walk1) | (with_reducible apply Hid.use; with_reducible assumption))))
    (try (with_reducible apply Hid.use; with_reducible assumption)); (try dsimp only)
    rename Fr _ _ _ _ => F4
    rename News _ _ _ _ => N4
    rename IsRange _ _ _ _ _ _ _ _ => hr
    rename_i lK _ _ _ l3 _ _ _ _ _ _ _ _ _
    have ltK : @LT.lt Nat _ lF lK := allLt_get l3.2 (lF, W.listOf (refs fr).toArray nF) (List.mem_append_right _ (.tail _ (.head _)))
    have okK : ∀ b ∈ (a.MP w 0 0 0 [] 0).map (·.1), @Ne Nat lK b := fun b hb e => by have := okl b hb; omega
    have N5 : News g L' _ (a.MP w i tl₀ ti₀ (refs (fr.drop 0)) pn ++ RestF (L' + 1 + 1) (L' + 1) lF lK oA oc fr nF (fr.take 0) 0 cs) := N4.perm (fun p hp => by
      simp only [List.mem_cons, List.mem_append, RestF, List.drop_zero] at hp ⊢
      rcases hp with h | h | h | h | h | h
      · exact .inr (.inr (.inl h))
      · exact .inr (.inr (.inr (.inl h)))
      · exact .inr (.inl h)
      · exact .inr (.inr (.inr (.inr (.inl h))))
      · exact .inl h
      · exact .inr (.inr (.inr (.inr (.inr h)))))
    clear N4 l3 apC apF l2 okRC
    have hgd : Good (ddOf cls) := good_dd Good.nil hcl
    refine for_range (n := 40)
      (fun k m news => Ex9 fun (fr ex : List (Addr × List Value)) (pn nF nK : Nat) (oA oC : Obj) (vA vC : Option Value) => A9 (news = a.MP w i tl₀ ti₀ (refs (fr.drop k)) pn ++ RestF (L' + 1 + 1) (L' + 1) lF lK oA oC fr nF (fr.take k) nK ex) (oA.data = .cell vA) (oC.data = .cell vC) (RowsAre fr (FF cls k)) ((∀ r ∈ fr, r ∈ ex)) ((∀ r ∈ cs, r ∈ ex)) (k ≤ fr.length) (Good (FF cls k)) (gotN m [((PySem.Str.ofString "came"), Value.ref lK), ((PySem.Str.ofString "found"), Value.ref lF), ((PySem.Str.ofString "lexer"), Value.ref a.x)] = wantN [((PySem.Str.ofString "came"), Value.ref lK), ((PySem.Str.ofString "found"), Value.ref lF), ((PySem.Str.ofString "lexer"), Value.ref a.x)]))
      rfl F4 N5 hr (rsmall 40 (by decide)) (rsize 40) ⟨fr, cs, pn, nF, 0, oA, oc, vA, vC', rfl, dA, hoc, hfr, hsub, (fun r hr => hr), Nat.zero_le _, hgd, ?hmK⟩ ?turnK ?doneK
    case hmK =>
      rfl
    case doneK =>
      rintro m news h5 tk5 ⟨fr, ex, pn, nF, nK, oA, oC, vA, vC, rfl, hA', hC', hfr, _, _, hk, hgood, _⟩ _ _
      have h1 := hgood.len
      have h2 := hfr.length
      omega
    case turnK =>
      rintro k tv m news I oI h5 tk5 E' hk40 ⟨fr, ex, pn, nF, nK, oA, oC, vA, vC, rfl, dA, dC, hfr, hfe, hce, hk, hgood, hm⟩ F6 N6 ha hfI
      clear F4 N5 hr
      replace F6 := frNamesE _ F6 hm
      have hfl := hgood.len
      have hflen := hfr.length
      have hIk : ∀ b ∈ (a.MP w 0 0 0 [] 0).map (·.1), @Ne Nat I b := by
        intro b hb e
        rw [Lx.MP_keys (j := i) (tl' := tl₀) (ti' := ti₀) (vs' := refs (fr.drop k)) (n' := pn)] at hb
        obtain ⟨p, hp, e2⟩ := List.mem_map.mp hb
        exact ha p (List.mem_append_left _ hp) (e2.trans e.symm)
      have hrest : ∀ (oA oC : Obj) (nF nK : Nat) (fr' kr : List (Addr × List Value)) (ex' : List (Addr × List Value)) (h : Heap) (vs : List Value) (pn : Nat), (∀ p ∈ a.MP w i tl₀ ti₀ vs pn, h.get? p.1 = some p.2) → (∀ r ∈ ex', h.get? r.1 = some (tupO r.2)) → ∀ p ∈ ((I, oI) :: RestF (L' + 1 + 1) (L' + 1) lF lK oA oC fr' nF kr nK ex'), p.1 ∉ (a.MP w 0 0 0 [] 0).map (·.1) := by
        intro oA oC nF nK fr' kr ex' h vs pn hMP hex p hp
        simp only [RestF, List.mem_cons] at hp
        rcases hp with rfl | rfl | rfl | rfl | rfl | hp
        · exact fun hm => hIk _ hm rfl
        · exact fun hm => okA _ hm rfl
        · exact fun hm => okC _ hm rfl
        · exact fun hm => okF _ hm rfl
        · exact fun hm => okK _ hm rfl
        · obtain ⟨r, hr, rfl⟩ := List.mem_map.mp hp
          exact tup_off ok hMP (hex r hr)
      have hMP6 : ∀ p ∈ a.MP w i tl₀ ti₀ (refs (fr.drop k)) pn, h5.get? p.1 = some p.2 := fun p hp => (N6 p (.tail _ (List.mem_append_left _ hp))).1
      have hex6 : ∀ r ∈ ex, h5.get? r.1 = some (tupO r.2) := fun r hr => (N6 (rowObj r) (.tail _ (List.mem_append_right _ (.tail _ (.tail _ (.tail _ (.tail _ (List.mem_map.mpr ⟨r, hr, rfl⟩)))))))).1
      have N7 := N6
      dsimp only [Lx.MP, Lx.M, Lx.dO, Lx.eO, RestF, List.cons_append, List.nil_append] at N7
      by_cases q0 : k < fr.length
      · -- a clause is taken from the pushback
        obtain ⟨r, hrk⟩ : ∃ r, fr[k]? = some r := ⟨_, List.getElem?_eq_getElem q0⟩
        obtain ⟨gc, hgk, hig⟩ := hfr.at hrk
        have hrx : r ∈ ex := hfe r (List.mem_of_getElem? hrk)
        have hdr : fr.drop k = r :: fr.drop (k + 1) := by
          obtain ⟨hl, e⟩ := List.getElem?_eq_some_iff.mp hrk
          rw [List.drop_eq_getElem_cons hl, e]
        have hdr2 : refs (fr.drop k) = Value.ref r.1 :: refs (fr.drop (k + 1)) := by rw [hdr]; rfl
        clear N6
        ((try ((with_reducible show wpAny _ _ (execs _ _) _ _ _); (fail_if_success (with_reducible show wpAny _ _ _ Qh _ _)); refine hideQ ?_; intro Qh hQh)); repeat' ((fail_if_success (with_reducible show wpAny _ _ (exec (PySem.Stmt.Assign _ (PySem.Expr.ListComp _ _ _ _) _) _) _ _ _)); (fail_if_success (with_reducible show wpAny _ _ (exec (PySem.Stmt.For _ _ _ _ _) _) _ _ _)); (fail_if_success (with_reducible show wpAny _ _ (eval (PySem.Expr.ListComp _ _ _ _) _) _ _ _)); (fail_if_success (with_reducible show wpAny _ _ (call (Value.builtin "isinstance") _ _) _ _ _)); (fail_if_success (with_reducible show wpAny _ _ (call (Value.builtin "list.append") _ _) _ _ _)); (fail_if_success (with_reducible show wpAny _ _ (compareOp CmpOp.NotIn (Value.ref _) (Value.ref _)) _ _ _)); (fail_if_success (with_reducible show wpAny _ _ (call (Value.ref _) _ _) _ _ _)); (first | walk1 | (dsimp only; walk1) | (with_reducible apply Hid.use; with_reducible assumption))))
        rename Fr _ _ _ _ => F8
        rename News _ _ _ _ => N8
        replace N8 : News g L' _ ((I, oI) :: (a.MP w i tl₀ ti₀ (refs (fr.drop k)) pn ++ RestF (L' + 1 + 1) (L' + 1) lF lK oA oC fr nF (fr.take k) nK ex)) := N8
        rw [hdr2] at N8
        refine wpAny_call (pop_call (a := a) (i := i) (tl := tl₀) (ti := ti₀) (n := pn) (v := .ref r.1) (vs := refs (fr.drop (k + 1))) (rest := (I, oI) :: RestF (L' + 1 + 1) (L' + 1) lF lK oA oC fr nF (fr.take k) nK ex) ok okp (by rw [refs_len, List.length_drop]; omega) rfl (Nat.le_of_ble_eq_true rfl) (Nat.le_of_ble_eq_true rfl) X T F8 (lay1' (Ms := a.MP w i tl₀ ti₀ (Value.ref r.1 :: refs (fr.drop (k + 1))) pn) N8) (hrest _ _ _ _ _ _ _ _ _ _ hMP6 hex6) ?_)
        intro h7 tk7 pn' F9 N9
        replace N9 := unlay1' N9
        (try (with_reducible apply Hid.use; with_reducible assumption)); (try dsimp only)
        have hMP9 : ∀ p ∈ a.MP w i tl₀ ti₀ (refs (fr.drop (k + 1))) pn', h7.get? p.1 = some p.2 := fun p hp => (N9 p (.tail _ (List.mem_append_left _ hp))).1
        have hex9 : ∀ r ∈ ex, h7.get? r.1 = some (tupO r.2) := fun r hr => (N9 (rowObj r) (.tail _ (List.mem_append_right _ (.tail _ (.tail _ (.tail _ (.tail _ (List.mem_map.mpr ⟨r, hr, rfl⟩)))))))).1
        clear F8 N8 hMP6 hex6
        dsimp only [Lx.MP, Lx.M, Lx.dO, Lx.eO, RestF, List.cons_append, List.nil_append] at N9
        ((try ((with_reducible show wpAny _ _ (execs _ _) _ _ _); (fail_if_success (with_reducible show wpAny _ _ _ Qh _ _)); refine hideQ ?_; intro Qh hQh)); repeat' ((fail_if_success (with_reducible show wpAny _ _ (exec (PySem.Stmt.Assign _ (PySem.Expr.ListComp _ _ _ _) _) _) _ _ _)); (fail_if_success (with_reducible show wpAny _ _ (exec (PySem.Stmt.For _ _ _ _ _) _) _ _ _)); (fail_if_success (with_reducible show wpAny _ _ (eval (PySem.Expr.ListComp _ _ _ _) _) _ _ _)); (fail_if_success (with_reducible show wpAny _ _ (call (Value.builtin "isinstance") _ _) _ _ _)); (fail_if_success (with_reducible show wpAny _ _ (call (Value.builtin "list.append") _ _) _ _ _)); (fail_if_success (with_reducible show wpAny _ _ (compareOp CmpOp.NotIn (Value.ref _) (Value.ref _)) _ _ _)); (fail_if_success (with_reducible show wpAny _ _ (call (Value.ref _) _ _) _ _ _)); (first | walk1 | (dsimp only; walk1) | (with_reducible apply Hid.use; with_reducible assumption))))
        rename Fr _ _ _ _ => F8
        rename News _ _ _ _ => N8
        refine PySem.IsiPair.tuple_tuple (o := tupO r.2) (News.get N8 (show rowObj r ∈ ((I, oI) :: (a.MP w i tl₀ ti₀ (refs (fr.drop (k + 1))) pn' ++ RestF (L' + 1 + 1) (L' + 1) lF lK oA oC fr nF (fr.take k) nK ex)) from .tail _ (List.mem_append_right _ (.tail _ (.tail _ (.tail _ (.tail _ (List.mem_map.mpr ⟨r, hrx, rfl⟩)))))))) rfl ?_
        ((try ((with_reducible show wpAny _ _ (execs _ _) _ _ _); (fail_if_success (with_reducible show wpAny _ _ _ Qh _ _)); refine hideQ ?_; intro Qh hQh)); repeat' ((fail_if_success (with_reducible show wpAny _ _ (exec (PySem.Stmt.Assign _ (PySem.Expr.ListComp _ _ _ _) _) _) _ _ _)); (fail_if_success (with_reducible show wpAny _ _ (exec (PySem.Stmt.For _ _ _ _ _) _) _ _ _)); (fail_if_success (with_reducible show wpAny _ _ (eval (PySem.Expr.ListComp _ _ _ _) _) _ _ _)); (fail_if_success (with_reducible show wpAny _ _ (call (Value.builtin "isinstance") _ _) _ _ _)); (fail_if_success (with_reducible show wpAny _ _ (call (Value.builtin "list.append") _ _) _ _ _)); (fail_if_success (with_reducible show wpAny _ _ (compareOp CmpOp.NotIn (Value.ref _) (Value.ref _)) _ _ _)); (fail_if_success (with_reducible show wpAny _ _ (call (Value.ref _) _ _) _ _ _)); (first | walk1 | (dsimp only; walk1) | (with_reducible apply Hid.use; with_reducible assumption))))
        refine For_ ?_
        ((try ((with_reducible show wpAny _ _ (execs _ _) _ _ _); (fail_if_success (with_reducible show wpAny _ _ _ Qh _ _)); refine hideQ ?_; intro Qh hQh)); repeat' ((fail_if_success (with_reducible show wpAny _ _ (exec (PySem.Stmt.Assign _ (PySem.Expr.ListComp _ _ _ _) _) _) _ _ _)); (fail_if_success (with_reducible show wpAny _ _ (exec (PySem.Stmt.For _ _ _ _ _) _) _ _ _)); (fail_if_success (with_reducible show wpAny _ _ (eval (PySem.Expr.ListComp _ _ _ _) _) _ _ _)); (fail_if_success (with_reducible show wpAny _ _ (call (Value.builtin "isinstance") _ _) _ _ _)); (fail_if_success (with_reducible show wpAny _ _ (call (Value.builtin "list.append") _ _) _ _ _)); (fail_if_success (with_reducible show wpAny _ _ (compareOp CmpOp.NotIn (Value.ref _) (Value.ref _)) _ _ _)); (fail_if_success (with_reducible show wpAny _ _ (call (Value.ref _) _ _) _ _ _)); (first | walk1 | (dsimp only; walk1) | (with_reducible apply Hid.use; with_reducible assumption))))
        (try (with_reducible apply Hid.use; with_reducible assumption)); (try dsimp only)
        rename Fr _ _ _ _ => F10
        rename News _ _ _ _ => N10

        rename_i lO _ l4 _
        replace l4 : PySem.W.AllLt lO ((I, oI) :: (a.MP w i tl₀ ti₀ (refs (fr.drop (k + 1))) pn' ++ RestF (L' + 1 + 1) (L' + 1) lF lK oA oC fr nF (fr.take k) nK ex)) := l4
        replace N10 : News g L' _ ((lO, W.listOf ([] : List Value).toArray 0) :: ((I, oI) :: (a.MP w i tl₀ ti₀ (refs (fr.drop (k + 1))) pn' ++ RestF (L' + 1 + 1) (L' + 1) lF lK oA oC fr nF (fr.take k) nK ex))) := N10
        have ltO := allLt_get l4
        have mrow : rowObj r ∈ ((I, oI) :: (a.MP w i tl₀ ti₀ (refs (fr.drop (k + 1))) pn' ++ RestF (L' + 1 + 1) (L' + 1) lF lK oA oC fr nF (fr.take k) nK ex)) := .tail _ (List.mem_append_right _ (.tail _ (.tail _ (.tail _ (.tail _ (List.mem_map.mpr ⟨r, hrx, rfl⟩))))))
        have hgc := all27_len gc (hgood.sub gc (List.mem_of_getElem? hgk))
        clear F9 N9
        generalize hBs : ((I, oI) :: (a.MP w i tl₀ ti₀ (refs (fr.drop (k + 1))) pn' ++ RestF (L' + 1 + 1) (L' + 1) lF lK oA oC fr nF (fr.take k) nK ex)) = Bs at l4 N10 ltO mrow
        refine for_tupK (src := [rowObj r]) (its := r.2.toArray)
          (fun j m news => Ex2 fun (os : List Value) (nO : Nat) => A3 (news = (lO, W.listOf os.toArray nO) :: Bs) (IntsAre os (othersOf (gc.take j))) (gotN m [((PySem.Str.ofString "others"), Value.ref lO), ((PySem.Str.ofString "got"), Value.ref r.1), ((PySem.Str.ofString "came"), Value.ref lK), ((PySem.Str.ofString "found"), Value.ref lF), ((PySem.Str.ofString "lexer"), Value.ref a.x)] = wantN [((PySem.Str.ofString "others"), Value.ref lO), ((PySem.Str.ofString "got"), Value.ref r.1), ((PySem.Str.ofString "came"), Value.ref lK), ((PySem.Str.ofString "found"), Value.ref lF), ((PySem.Str.ofString "lexer"), Value.ref a.x)]))
          rfl F10 N10 (.inr rfl) (fun j m news hJ p hp => by
            rcases List.mem_singleton.mp hp with rfl
            obtain ⟨os, nO, rfl, _⟩ := hJ
            exact .tail _ mrow) ⟨[], 0, rfl, .nil, ?hm5⟩ ?turn5 ?done5
        case hm5 =>
          rfl
        case turn5 =>
          rintro j v m news I5 oI5 h9 tk9 E9 hcI5 hv ⟨os, nO, rfl, hos, hm⟩ F11 N11 ha5 hf5
          obtain ⟨pt, tp, rfl, hpt⟩ := hig.at j v (by simpa using hv)
          have hpb := hgc.2 pt (List.mem_of_getElem? hpt)
          have hosl : os.length ≤ 3 := by rw [hos.length]; exact Nat.le_trans others_len (Nat.le_trans (List.length_take_le' _ _) hgc.1)
          clear F10 N10
          replace F11 := frNamesE _ F11 hm
          have nOI : @Ne Nat lO I5 := ha5 _ (.head _)
          have stepO : ∀ (os : List Value) (nO : Nat) (o' : Obj), ∀ p ∈ ((I5, oI5) :: (lO, o') :: Bs), p = (lO, o') ∨ (p ∈ ((I5, oI5) :: (lO, W.listOf os.toArray nO) :: Bs) ∧ @Ne Nat p.1 lO) := by
            intro os nO o'
            refine fc ?_ (fc ?_ (fun p hp => ?_))
            · exact .inr ⟨.head _, nOI.symm⟩
            · exact .inl rfl
            · exact .inr ⟨.tail _ (.tail _ hp), Nat.ne_of_lt (ltO p hp)⟩
          ((try ((with_reducible show wpAny _ _ (execs _ _) _ _ _); (fail_if_success (with_reducible show wpAny _ _ _ Qh _ _)); refine hideQ ?_; intro Qh hQh)); repeat' ((fail_if_success (with_reducible show wpAny _ _ (exec (PySem.Stmt.Assign _ (PySem.Expr.ListComp _ _ _ _) _) _) _ _ _)); (fail_if_success (with_reducible show wpAny _ _ (exec (PySem.Stmt.For _ _ _ _ _) _) _ _ _)); (fail_if_success (with_reducible show wpAny _ _ (eval (PySem.Expr.ListComp _ _ _ _) _) _ _ _)); (fail_if_success (with_reducible show wpAny _ _ (call (Value.builtin "isinstance") _ _) _ _ _)); (fail_if_success (with_reducible show wpAny _ _ (call (Value.builtin "list.append") _ _) _ _ _)); (fail_if_success (with_reducible show wpAny _ _ (compareOp CmpOp.NotIn (Value.ref _) (Value.ref _)) _ _ _)); (fail_if_success (with_reducible show wpAny _ _ (call (Value.ref _) _ _) _ _ _)); (first | walk1 | (dsimp only; walk1) | (with_reducible apply Hid.use; with_reducible assumption))))
          rename Fr _ _ _ _ => F12
          rename News _ _ _ _ => N12
          refine wpAny_call (c_term rfl (Nat.le_of_ble_eq_true rfl) (Nat.le_of_ble_eq_true rfl) (X.keeps F12.keep) (T.keeps F12.keep) ?_)
          intro h10 tk10 k10
          have F13 := F12.keeps k10
          have N13 := N12.grown k10
          clear F12 N12 k10
          (try (with_reducible apply Hid.use; with_reducible assumption)); (try dsimp only)
          by_cases q1 : pt < 256
          · rw [decide_eq_true q1]
            ((try ((with_reducible show wpAny _ _ (execs _ _) _ _ _); (fail_if_success (with_reducible show wpAny _ _ _ Qh _ _)); refine hideQ ?_; intro Qh hQh)); repeat' ((fail_if_success (with_reducible show wpAny _ _ (exec (PySem.Stmt.Assign _ (PySem.Expr.ListComp _ _ _ _) _) _) _ _ _)); (fail_if_success (with_reducible show wpAny _ _ (exec (PySem.Stmt.For _ _ _ _ _) _) _ _ _)); (fail_if_success (with_reducible show wpAny _ _ (eval (PySem.Expr.ListComp _ _ _ _) _) _ _ _)); (fail_if_success (with_reducible show wpAny _ _ (call (Value.builtin "isinstance") _ _) _ _ _)); (fail_if_success (with_reducible show wpAny _ _ (call (Value.builtin "list.append") _ _) _ _ _)); (fail_if_success (with_reducible show wpAny _ _ (compareOp CmpOp.NotIn (Value.ref _) (Value.ref _)) _ _ _)); (fail_if_success (with_reducible show wpAny _ _ (call (Value.ref _) _ _) _ _ _)); (first | walk1 | (dsimp only; walk1) | (with_reducible apply Hid.use; with_reducible assumption))))
            rename Fr _ _ _ _ => F12
            rename News _ _ _ _ => N12
            refine append_any (vs := os) (n := nO) F12 N12 (.tail _ (.head _)) (by omega) ((I5, oI5) :: (lO, W.listOf (os ++ [_]).toArray (nO + 1)) :: Bs) (stepO os nO _) ?_
            intro h11 F14 N14
            clear F12 N12
            ((try ((with_reducible show wpAny _ _ (execs _ _) _ _ _); (fail_if_success (with_reducible show wpAny _ _ _ Qh _ _)); refine hideQ ?_; intro Qh hQh)); repeat' ((fail_if_success (with_reducible show wpAny _ _ (exec (PySem.Stmt.Assign _ (PySem.Expr.ListComp _ _ _ _) _) _) _ _ _)); (fail_if_success (with_reducible show wpAny _ _ (exec (PySem.Stmt.For _ _ _ _ _) _) _ _ _)); (fail_if_success (with_reducible show wpAny _ _ (eval (PySem.Expr.ListComp _ _ _ _) _) _ _ _)); (fail_if_success (with_reducible show wpAny _ _ (call (Value.builtin "isinstance") _ _) _ _ _)); (fail_if_success (with_reducible show wpAny _ _ (call (Value.builtin "list.append") _ _) _ _ _)); (fail_if_success (with_reducible show wpAny _ _ (compareOp CmpOp.NotIn (Value.ref _) (Value.ref _)) _ _ _)); (fail_if_success (with_reducible show wpAny _ _ (call (Value.ref _) _ _) _ _ _)); (first | walk1 | (dsimp only; walk1) | (with_reducible apply Hid.use; with_reducible assumption))))
            rename Fr _ _ _ _ => F12
            rename News _ _ _ _ => N12
            refine wpAny_call (c_nonterm rfl (Nat.le_of_ble_eq_true rfl) (Nat.le_of_ble_eq_true rfl) (X.keeps F12.keep) (T.keeps F12.keep) ?_)
            intro h12 tk12 k12
            have F15 := F12.keeps k12
            have N15 := N12.grown k12
            clear F12 N12 k12
            (try (with_reducible apply Hid.use; with_reducible assumption)); (try dsimp only)
            rw [decide_eq_false (p := pt ≥ 256) (by omega)]
            ((try ((with_reducible show wpAny _ _ (execs _ _) _ _ _); (fail_if_success (with_reducible show wpAny _ _ _ Qh _ _)); refine hideQ ?_; intro Qh hQh)); repeat' ((fail_if_success (with_reducible show wpAny _ _ (exec (PySem.Stmt.Assign _ (PySem.Expr.ListComp _ _ _ _) _) _) _ _ _)); (fail_if_success (with_reducible show wpAny _ _ (exec (PySem.Stmt.For _ _ _ _ _) _) _ _ _)); (fail_if_success (with_reducible show wpAny _ _ (eval (PySem.Expr.ListComp _ _ _ _) _) _ _ _)); (fail_if_success (with_reducible show wpAny _ _ (call (Value.builtin "isinstance") _ _) _ _ _)); (fail_if_success (with_reducible show wpAny _ _ (call (Value.builtin "list.append") _ _) _ _ _)); (fail_if_success (with_reducible show wpAny _ _ (compareOp CmpOp.NotIn (Value.ref _) (Value.ref _)) _ _ _)); (fail_if_success (with_reducible show wpAny _ _ (call (Value.ref _) _ _) _ _ _)); (first | walk1 | (dsimp only; walk1) | (with_reducible apply Hid.use; with_reducible assumption))))
            (try (with_reducible apply Hid.use; with_reducible assumption)); (try dsimp only)
            refine' Turn.next ((lO, _) :: Bs) (by k_asm) N15 (fun p hp => hp) ?_ ⟨os ++ [_], nO + 1, rfl, ?_, ?hmA⟩
            · intro p hp
              rcases List.mem_cons.mp hp with rfl | hp
              · exact nOI
              · exact ha5 p (.tail _ hp)
            · rw [others_snoc hpt, if_pos q1, if_neg (by omega)]
              exact ints_snoc hos
            case hmA =>
              rfl
          · rw [decide_eq_false q1]
            ((try ((with_reducible show wpAny _ _ (execs _ _) _ _ _); (fail_if_success (with_reducible show wpAny _ _ _ Qh _ _)); refine hideQ ?_; intro Qh hQh)); repeat' ((fail_if_success (with_reducible show wpAny _ _ (exec (PySem.Stmt.Assign _ (PySem.Expr.ListComp _ _ _ _) _) _) _ _ _)); (fail_if_success (with_reducible show wpAny _ _ (exec (PySem.Stmt.For _ _ _ _ _) _) _ _ _)); (fail_if_success (with_reducible show wpAny _ _ (eval (PySem.Expr.ListComp _ _ _ _) _) _ _ _)); (fail_if_success (with_reducible show wpAny _ _ (call (Value.builtin "isinstance") _ _) _ _ _)); (fail_if_success (with_reducible show wpAny _ _ (call (Value.builtin "list.append") _ _) _ _ _)); (fail_if_success (with_reducible show wpAny _ _ (compareOp CmpOp.NotIn (Value.ref _) (Value.ref _)) _ _ _)); (fail_if_success (with_reducible show wpAny _ _ (call (Value.ref _) _ _) _ _ _)); (first | walk1 | (dsimp only; walk1) | (with_reducible apply Hid.use; with_reducible assumption))))
            rename Fr _ _ _ _ => F12
            rename News _ _ _ _ => N12
            refine wpAny_call (c_nonterm rfl (Nat.le_of_ble_eq_true rfl) (Nat.le_of_ble_eq_true rfl) (X.keeps F12.keep) (T.keeps F12.keep) ?_)
            intro h12 tk12 k12
            have F15 := F12.keeps k12
            have N15 := N12.grown k12
            clear F12 N12 k12
            (try (with_reducible apply Hid.use; with_reducible assumption)); (try dsimp only)
            rw [decide_eq_true (p := pt ≥ 256) (by omega)]
            ((try ((with_reducible show wpAny _ _ (execs _ _) _ _ _); (fail_if_success (with_reducible show wpAny _ _ _ Qh _ _)); refine hideQ ?_; intro Qh hQh)); repeat' ((fail_if_success (with_reducible show wpAny _ _ (exec (PySem.Stmt.Assign _ (PySem.Expr.ListComp _ _ _ _) _) _) _ _ _)); (fail_if_success (with_reducible show wpAny _ _ (exec (PySem.Stmt.For _ _ _ _ _) _) _ _ _)); (fail_if_success (with_reducible show wpAny _ _ (eval (PySem.Expr.ListComp _ _ _ _) _) _ _ _)); (fail_if_success (with_reducible show wpAny _ _ (call (Value.builtin "isinstance") _ _) _ _ _)); (fail_if_success (with_reducible show wpAny _ _ (call (Value.builtin "list.append") _ _) _ _ _)); (fail_if_success (with_reducible show wpAny _ _ (compareOp CmpOp.NotIn (Value.ref _) (Value.ref _)) _ _ _)); (fail_if_success (with_reducible show wpAny _ _ (call (Value.ref _) _ _) _ _ _)); (first | walk1 | (dsimp only; walk1) | (with_reducible apply Hid.use; with_reducible assumption))))
            rename Fr _ _ _ _ => F12
            rename News _ _ _ _ => N12
            refine append_any (vs := os) (n := nO) F12 N12 (.tail _ (.head _)) (by omega) ((I5, oI5) :: (lO, W.listOf (os ++ [_]).toArray (nO + 1)) :: Bs) (stepO os nO _) ?_
            intro h11 F14 N14
            clear F12 N12
            ((try ((with_reducible show wpAny _ _ (execs _ _) _ _ _); (fail_if_success (with_reducible show wpAny _ _ _ Qh _ _)); refine hideQ ?_; intro Qh hQh)); repeat' ((fail_if_success (with_reducible show wpAny _ _ (exec (PySem.Stmt.Assign _ (PySem.Expr.ListComp _ _ _ _) _) _) _ _ _)); (fail_if_success (with_reducible show wpAny _ _ (exec (PySem.Stmt.For _ _ _ _ _) _) _ _ _)); (fail_if_success (with_reducible show wpAny _ _ (eval (PySem.Expr.ListComp _ _ _ _) _) _ _ _)); (fail_if_success (with_reducible show wpAny _ _ (call (Value.builtin "isinstance") _ _) _ _ _)); (fail_if_success (with_reducible show wpAny _ _ (call (Value.builtin "list.append") _ _) _ _ _)); (fail_if_success (with_reducible show wpAny _ _ (compareOp CmpOp.NotIn (Value.ref _) (Value.ref _)) _ _ _)); (fail_if_success (with_reducible show wpAny _ _ (call (Value.ref _) _ _) _ _ _)); (first | walk1 | (dsimp only; walk1) | (with_reducible apply Hid.use; with_reducible assumption))))
            (try (with_reducible apply Hid.use; with_reducible assumption)); (try dsimp only)
            refine' Turn.next ((lO, _) :: Bs) (by k_asm) N14 (fun p hp => hp) ?_ ⟨os ++ [_], nO + 1, rfl, ?_, ?hmB⟩
            · intro p hp
              rcases List.mem_cons.mp hp with rfl | hp
              · exact nOI
              · exact ha5 p (.tail _ hp)
            · rw [others_snoc hpt, if_neg q1, if_pos (by omega)]
              exact ints_snoc hos
            case hmB =>
              rfl
        case done5 =>
          rintro m news h9 tk9 ⟨os, nO, rfl, hos, hm⟩ F11 N11
          rw [List.size_toArray, hig.length, List.take_length] at hos
          have hosl : os.length ≤ 3 := by rw [hos.length]; exact Nat.le_trans others_len hgc.1
          clear F10 N10
          subst hBs
          replace F11 := frNamesE' _ F11 hm
          ((try ((with_reducible show wpAny _ _ (execs _ _) _ _ _); (fail_if_success (with_reducible show wpAny _ _ _ Qh _ _)); refine hideQ ?_; intro Qh hQh)); repeat' ((fail_if_success (with_reducible show wpAny _ _ (exec (PySem.Stmt.Assign _ (PySem.Expr.ListComp _ _ _ _) _) _) _ _ _)); (fail_if_success (with_reducible show wpAny _ _ (exec (PySem.Stmt.For _ _ _ _ _) _) _ _ _)); (fail_if_success (with_reducible show wpAny _ _ (eval (PySem.Expr.ListComp _ _ _ _) _) _ _ _)); (fail_if_success (with_reducible show wpAny _ _ (call (Value.builtin "isinstance") _ _) _ _ _)); (fail_if_success (with_reducible show wpAny _ _ (call (Value.builtin "list.append") _ _) _ _ _)); (fail_if_success (with_reducible show wpAny _ _ (compareOp CmpOp.NotIn (Value.ref _) (Value.ref _)) _ _ _)); (fail_if_success (with_reducible show wpAny _ _ (call (Value.ref _) _ _) _ _ _)); (first | walk1 | (dsimp only; walk1) | (with_reducible apply Hid.use; with_reducible assumption))))
          refine For_ ?_
          ((try ((with_reducible show wpAny _ _ (execs _ _) _ _ _); (fail_if_success (with_reducible show wpAny _ _ _ Qh _ _)); refine hideQ ?_; intro Qh hQh)); repeat' ((fail_if_success (with_reducible show wpAny _ _ (exec (PySem.Stmt.Assign _ (PySem.Expr.ListComp _ _ _ _) _) _) _ _ _)); (fail_if_success (with_reducible show wpAny _ _ (exec (PySem.Stmt.For _ _ _ _ _) _) _ _ _)); (fail_if_success (with_reducible show wpAny _ _ (eval (PySem.Expr.ListComp _ _ _ _) _) _ _ _)); (fail_if_success (with_reducible show wpAny _ _ (call (Value.builtin "isinstance") _ _) _ _ _)); (fail_if_success (with_reducible show wpAny _ _ (call (Value.builtin "list.append") _ _) _ _ _)); (fail_if_success (with_reducible show wpAny _ _ (compareOp CmpOp.NotIn (Value.ref _) (Value.ref _)) _ _ _)); (fail_if_success (with_reducible show wpAny _ _ (call (Value.ref _) _ _) _ _ _)); (first | walk1 | (dsimp only; walk1) | (with_reducible apply Hid.use; with_reducible assumption))))
          (try (with_reducible apply Hid.use; with_reducible assumption)); (try dsimp only)
          rename Fr _ _ _ _ => F16
          rename News _ _ _ _ => N16
          have nOC : @Ne Nat lO (L' + 1) := Nat.ne_of_gt (ltO (L' + 1, oC) (.tail _ (List.mem_append_right _ (.tail _ (.head _)))))
          have nOA : @Ne Nat lO (L' + 1 + 1) := Nat.ne_of_gt (ltO (L' + 1 + 1, oA) (.tail _ (List.mem_append_right _ (.head _))))
          have nOF : @Ne Nat lO lF := Nat.ne_of_gt (ltO (lF, W.listOf (refs fr).toArray nF) (.tail _ (List.mem_append_right _ (.tail _ (.tail _ (.head _))))))
          have nOK : @Ne Nat lO lK := Nat.ne_of_gt (ltO (lK, W.listOf (refs (fr.take k)).toArray nK) (.tail _ (List.mem_append_right _ (.tail _ (.tail _ (.tail _ (.head _)))))))
          have nOI : @Ne Nat lO I := Nat.ne_of_gt (ltO (I, oI) (.head _))
          have okO : ∀ b ∈ (a.MP w 0 0 0 [] 0).map (·.1), @Ne Nat lO b := fun b hb e => by
            have h1 := okl b hb
            have h2 : @LT.lt Nat _ (L' + 1) lO := ltO (L' + 1, oC) (.tail _ (List.mem_append_right _ (.tail _ (.head _))))
            omega
          have nIC : @Ne Nat I (L' + 1) := Ne.symm (ha (L' + 1, oC) (List.mem_append_right _ (.tail _ (.head _))))
          have nIA : @Ne Nat I (L' + 1 + 1) := Ne.symm (ha (L' + 1 + 1, oA) (List.mem_append_right _ (.head _)))
          have nIF : @Ne Nat I lF := Ne.symm (ha (lF, W.listOf (refs fr).toArray nF) (List.mem_append_right _ (.tail _ (.tail _ (.head _)))))
          have nIK : @Ne Nat I lK := Ne.symm (ha (lK, W.listOf (refs (fr.take k)).toArray nK) (List.mem_append_right _ (.tail _ (.tail _ (.tail _ (.head _))))))
          have nKC : @Ne Nat lK (L' + 1) := by omega
          have nKA : @Ne Nat lK (L' + 1 + 1) := by omega
          have nKF : @Ne Nat lK lF := by omega
          have N17 : News g L' _ ((L' + 1, oC) :: ((lO, W.listOf os.toArray nO) :: (I, oI) :: (a.MP w i tl₀ ti₀ (refs (fr.drop (k + 1))) pn' ++ ((L' + 1 + 1, oA) :: (lF, W.listOf (refs fr).toArray nF) :: (lK, W.listOf (refs (fr.take k)).toArray nK) :: ex.map rowObj)))) := N16.perm (fun p hp => by
            (try dsimp only [RestF] at hp ⊢); exact pm_1 hp)
          clear N16
          have apC : ∀ p ∈ ((lO, W.listOf os.toArray nO) :: (I, oI) :: (a.MP w i tl₀ ti₀ (refs (fr.drop (k + 1))) pn' ++ ((L' + 1 + 1, oA) :: (lF, W.listOf (refs fr).toArray nF) :: (lK, W.listOf (refs (fr.take k)).toArray nK) :: ex.map rowObj))), @Ne Nat p.1 (L' + 1) := by
            intro p hp
            have hpN := hp
            simp only [List.mem_cons, List.mem_append] at hp
            rcases hp with rfl | rfl | hp | rfl | rfl | rfl | hp
            · exact nOC
            · exact nIC
            · exact mp_apart okC p hp
            · exact nCA
            · exact nCF
            · exact nKC
            · obtain ⟨r', hr', rfl⟩ := List.mem_map.mp hp
              exact News.twoPlaces N17 (.tail _ hpN) (.head _) (tup_ne_cell dC)
          refine for_listC (src := [(lK, W.listOf (refs (fr.take k)).toArray nK)]) (c := L' + 1) (its := (refs (fr.take k)).toArray)
            (fun j m news => Ex7 fun (fr' ex' tail : List (Addr × List Value)) (pn nF : Nat) (oA : Obj) (vA : Option Value) => A8 (news = (lO, W.listOf os.toArray nO) :: (I, oI) :: (a.MP w i tl₀ ti₀ (refs (fr'.drop (k + 1))) pn ++ ((L' + 1 + 1, oA) :: (lF, W.listOf (refs fr').toArray nF) :: (lK, W.listOf (refs (fr.take k)).toArray nK) :: ex'.map rowObj))) (oA.data = .cell vA) (RowsAre fr' (((FF cls k).take j).foldl (stepF gc) (FF cls k))) ((∀ r ∈ fr', r ∈ ex')) ((∀ r ∈ ex, r ∈ ex')) ((∀ r ∈ ex', @Ne Nat r.1 I)) (fr' = fr ++ tail) (gotN m [((PySem.Str.ofString "others"), Value.ref lO), ((PySem.Str.ofString "got"), Value.ref r.1), ((PySem.Str.ofString "came"), Value.ref lK), ((PySem.Str.ofString "found"), Value.ref lF), ((PySem.Str.ofString "lexer"), Value.ref a.x)] = wantN [((PySem.Str.ofString "others"), Value.ref lO), ((PySem.Str.ofString "got"), Value.ref r.1), ((PySem.Str.ofString "came"), Value.ref lK), ((PySem.Str.ofString "found"), Value.ref lF), ((PySem.Str.ofString "lexer"), Value.ref a.x)]))
            rfl F16 N17 dC apC nKC (.inr ⟨nK, rfl⟩) (fun j m news hJ p hp => by
              rcases List.mem_singleton.mp hp with rfl
              obtain ⟨fr', ex', tail, pn, nF, oA, vA, rfl, _⟩ := hJ
              exact .tail _ (.tail _ (List.mem_append_right _ (.tail _ (.tail _ (.head _))))))
            ⟨fr, ex, [], pn', nF, oA, vA, rfl, dA, hfr, hfe, (fun r hr => hr), (fun r hr => ha (rowObj r) (List.mem_append_right _ (.tail _ (.tail _ (.tail _ (.tail _ (List.mem_map.mpr ⟨r, hr, rfl⟩))))))), (List.append_nil _).symm, ?hm6⟩ ?turn6 ?done6
          case hm6 =>
            rfl
          case turn6 =>
            rintro j v m news I6 oI6 oc h13 tk13 E13 hcI6 hoc hv ⟨fr', ex', tail, pn, nF, oA, vA, rfl, dA6, hfr6, hfe6, hex6, hxI6, htail, hm⟩ F18 N18 ha6 hCI6 hf6
            clear F16 N17 apC
            obtain ⟨r6, hr6, rfl⟩ : ∃ r6, (fr.take k)[j]? = some r6 ∧ v = .ref r6.1 := by
              have : (refs (fr.take k))[j]? = some v := by simpa using hv
              unfold refs at this
              rw [List.getElem?_map] at this
              obtain ⟨r, e1, e2⟩ := Option.map_eq_some_iff.mp this
              exact ⟨r, e1, e2.symm⟩
            have hjk : j < k := by
              have := (List.getElem?_eq_some_iff.mp hr6).1
              rw [List.length_take] at this; omega
            have hr6' : fr[j]? = some r6 := by rw [List.getElem?_take, if_pos hjk] at hr6; exact hr6
            obtain ⟨cc, hcj, hic⟩ := hfr.at hr6'
            have hcm : cc ∈ all27 := hgood.sub cc (List.mem_of_getElem? hcj)
            have hgm : gc ∈ all27 := hgood.sub gc (List.mem_of_getElem? hgk)
            have hcc := all27_len cc hcm
            have hrx6 : r6 ∈ ex' := hex6 r6 (hfe r6 (List.mem_of_getElem? hr6'))
            have hgood6 := (good_steps (cls := (FF cls k).take j) hgood hgm fun c hc => hgood.sub c (List.mem_of_mem_take hc)).1
            have hfl6 := hgood6.len
            have hflen6 := hfr6.length
            replace F18 := frNamesE' _ F18 hm
            ((try ((with_reducible show wpAny _ _ (execs _ _) _ _ _); (fail_if_success (with_reducible show wpAny _ _ _ Qh _ _)); refine hideQ ?_; intro Qh hQh)); repeat' ((fail_if_success (with_reducible show wpAny _ _ (exec (PySem.Stmt.Assign _ (PySem.Expr.ListComp _ _ _ _) _) _) _ _ _)); (fail_if_success (with_reducible show wpAny _ _ (exec (PySem.Stmt.For _ _ _ _ _) _) _ _ _)); (fail_if_success (with_reducible show wpAny _ _ (eval (PySem.Expr.ListComp _ _ _ _) _) _ _ _)); (fail_if_success (with_reducible show wpAny _ _ (call (Value.builtin "isinstance") _ _) _ _ _)); (fail_if_success (with_reducible show wpAny _ _ (call (Value.builtin "list.append") _ _) _ _ _)); (fail_if_success (with_reducible show wpAny _ _ (compareOp CmpOp.NotIn (Value.ref _) (Value.ref _)) _ _ _)); (fail_if_success (with_reducible show wpAny _ _ (call (Value.ref _) _ _) _ _ _)); (first | walk1 | (dsimp only; walk1) | (with_reducible apply Hid.use; with_reducible assumption))))
            refine wpAny_Assign_Name ?_ (by with_unfolding_all rfl)
            refine Comp_ (by rfl) ?_
            ((try ((with_reducible show wpAny _ _ (execs _ _) _ _ _); (fail_if_success (with_reducible show wpAny _ _ _ Qh _ _)); refine hideQ ?_; intro Qh hQh)); repeat' ((fail_if_success (with_reducible show wpAny _ _ (exec (PySem.Stmt.Assign _ (PySem.Expr.ListComp _ _ _ _) _) _) _ _ _)); (fail_if_success (with_reducible show wpAny _ _ (exec (PySem.Stmt.For _ _ _ _ _) _) _ _ _)); (fail_if_success (with_reducible show wpAny _ _ (eval (PySem.Expr.ListComp _ _ _ _) _) _ _ _)); (fail_if_success (with_reducible show wpAny _ _ (call (Value.builtin "isinstance") _ _) _ _ _)); (fail_if_success (with_reducible show wpAny _ _ (call (Value.builtin "list.append") _ _) _ _ _)); (fail_if_success (with_reducible show wpAny _ _ (compareOp CmpOp.NotIn (Value.ref _) (Value.ref _)) _ _ _)); (fail_if_success (with_reducible show wpAny _ _ (call (Value.ref _) _ _) _ _ _)); (first | walk1 | (dsimp only; walk1) | (with_reducible apply Hid.use; with_reducible assumption))))
            rename Fr _ _ _ _ => F19
            rename News _ _ _ _ => N19
            have hcC := News.get N19 (.tail _ (.head _))
            have hTup : Heap.IsTuple _ r6.1 r6.2.toArray := ⟨_, News.get N19 (show rowObj r6 ∈ _ from .tail _ (.tail _ (.tail _ (.tail _ (List.mem_append_right _ (.tail _ (.tail _ (.tail _ (List.mem_map.mpr ⟨r6, hrx6, rfl⟩)))))))))  , rfl, _, rfl⟩
            have hLO : Heap.IsList _ lO os.toArray := News.isList N19 (.tail _ (.tail _ (.head _)))
            have X19 := X.keeps F19.keep
            have T19 := T.keeps F19.keep
            refine comp_list (fun i ys news => news = [] ∧ IntsAre ys (((othersOf gc).take i).filter fun o => decide (o ∈ cc))) rfl hLO (by rw [List.size_toArray, sizeLine_eq]; omega) ⟨rfl, .nil⟩ ?cO ?dO
            case cO =>
              rintro i2 v2 ys news I7 C7 D7 oI7 g7 tk7 E7 hv7 ⟨rfl, hys⟩ F20 N20 ha7 hDI7
              obtain ⟨o, to, rfl, ho⟩ := hos.at i2 v2 (by simpa using hv7)
              have hTup7 := hTup.at fun o e => F20.keep _ o e
              refine tests_one ?_
              ((try ((with_reducible show wpAny _ _ (execs _ _) _ _ _); (fail_if_success (with_reducible show wpAny _ _ _ Qh _ _)); refine hideQ ?_; intro Qh hQh)); repeat' ((fail_if_success (with_reducible show wpAny _ _ (exec (PySem.Stmt.Assign _ (PySem.Expr.ListComp _ _ _ _) _) _) _ _ _)); (fail_if_success (with_reducible show wpAny _ _ (exec (PySem.Stmt.For _ _ _ _ _) _) _ _ _)); (fail_if_success (with_reducible show wpAny _ _ (eval (PySem.Expr.ListComp _ _ _ _) _) _ _ _)); (fail_if_success (with_reducible show wpAny _ _ (call (Value.builtin "isinstance") _ _) _ _ _)); (fail_if_success (with_reducible show wpAny _ _ (call (Value.builtin "list.append") _ _) _ _ _)); (fail_if_success (with_reducible show wpAny _ _ (compareOp CmpOp.NotIn (Value.ref _) (Value.ref _)) _ _ _)); (fail_if_success (with_reducible show wpAny _ _ (call (Value.ref _) _ _) _ _ _)); (first | walk1 | (dsimp only; walk1) | (with_reducible apply Hid.use; with_reducible assumption))))
              refine CTest.intro [] (by k_asm) (by k_asm) (fun p hp => hp) (fun _ hp => by cases hp) ?_
              have htk := filter_snoc (fun o => decide (o ∈ cc)) ho
              rw [any_mem]
              cases hp : decide (o ∈ cc) with
              | false =>
                rw [hp] at htk
                simp only [Bool.false_eq_true, if_false, List.append_nil] at htk ⊢
                exact ⟨trivial, htk ▸ hys⟩
              | true =>
                rw [hp] at htk
                simp only [if_true] at htk
                rw [if_pos rfl]
                intro oI8 h14 tk14 E14 F22 N22
                ((try ((with_reducible show wpAny _ _ (execs _ _) _ _ _); (fail_if_success (with_reducible show wpAny _ _ _ Qh _ _)); refine hideQ ?_; intro Qh hQh)); repeat' ((fail_if_success (with_reducible show wpAny _ _ (exec (PySem.Stmt.Assign _ (PySem.Expr.ListComp _ _ _ _) _) _) _ _ _)); (fail_if_success (with_reducible show wpAny _ _ (exec (PySem.Stmt.For _ _ _ _ _) _) _ _ _)); (fail_if_success (with_reducible show wpAny _ _ (eval (PySem.Expr.ListComp _ _ _ _) _) _ _ _)); (fail_if_success (with_reducible show wpAny _ _ (call (Value.builtin "isinstance") _ _) _ _ _)); (fail_if_success (with_reducible show wpAny _ _ (call (Value.builtin "list.append") _ _) _ _ _)); (fail_if_success (with_reducible show wpAny _ _ (compareOp CmpOp.NotIn (Value.ref _) (Value.ref _)) _ _ _)); (fail_if_success (with_reducible show wpAny _ _ (call (Value.ref _) _ _) _ _ _)); (first | walk1 | (dsimp only; walk1) | (with_reducible apply Hid.use; with_reducible assumption))))
                refine CElt.intro [] (by k_asm) (by k_asm) (fun p hp => hp) (fun _ hp => by cases hp) ⟨rfl, ?_⟩
                rw [htk]
                exact ints_snoc hys
            case dO =>
              rintro D g7 tk7 zs news ⟨rfl, hzs⟩ k2 hN2 _
              obtain ⟨F21, N21, _⟩ := added F19 N19 k2 hN2
              have hDn := (hN2 _ (.head _)).2
              rw [List.size_toArray, hos.length, List.take_length] at hzs
              have nDx : ∀ {b : Addr} {o : Obj}, (b, o) ∈ _ → @Ne Nat D b := fun {b o} hm e => by
                have z := (N19 (b, o) hm).1
                dsimp only at z hDn
                rw [← e, hDn] at z; cases z
              clear hDn
              have mA : (L' + 1 + 1, oA) ∈ ((D, W.listOf zs.toArray zs.length) :: (I6, oI6) :: (L' + 1, oc) :: (lO, W.listOf os.toArray nO) :: (I, oI) :: (a.MP w i tl₀ ti₀ (refs (fr'.drop (k + 1))) pn ++ ((L' + 1 + 1, oA) :: (lF, W.listOf (refs fr').toArray nF) :: (lK, W.listOf (refs (fr.take k)).toArray nK) :: ex'.map rowObj))) := .tail _ (.tail _ (.tail _ (.tail _ (.tail _ (List.mem_append_right _ (.head _))))))
              refine storeC_any (c := L' + 1 + 1) F21 N21 mA dA6 ((D, W.listOf zs.toArray zs.length) :: (r.1, tupO r.2) :: (r6.1, tupO r6.2) :: (I6, oI6) :: (L' + 1, oc) :: (lO, W.listOf os.toArray nO) :: (I, oI) :: (a.MP w i tl₀ ti₀ (refs (fr'.drop (k + 1))) pn ++ ((lF, W.listOf (refs fr').toArray nF) :: (lK, W.listOf (refs (fr.take k)).toArray nK) :: ex'.map rowObj))) (fun p hp => ?_) ?_
              · have row_ok : ∀ r' ∈ ex', rowObj r' ∈ ((D, W.listOf zs.toArray zs.length) :: (I6, oI6) :: (L' + 1, oc) :: (lO, W.listOf os.toArray nO) :: (I, oI) :: (a.MP w i tl₀ ti₀ (refs (fr'.drop (k + 1))) pn ++ ((L' + 1 + 1, oA) :: (lF, W.listOf (refs fr').toArray nF) :: (lK, W.listOf (refs (fr.take k)).toArray nK) :: ex'.map rowObj))) ∧ @Ne Nat (rowObj r').1 (L' + 1 + 1) := fun r' hr' => by
                  have hm : rowObj r' ∈ ((D, W.listOf zs.toArray zs.length) :: (I6, oI6) :: (L' + 1, oc) :: (lO, W.listOf os.toArray nO) :: (I, oI) :: (a.MP w i tl₀ ti₀ (refs (fr'.drop (k + 1))) pn ++ ((L' + 1 + 1, oA) :: (lF, W.listOf (refs fr').toArray nF) :: (lK, W.listOf (refs (fr.take k)).toArray nK) :: ex'.map rowObj))) := .tail _ (.tail _ (.tail _ (.tail _ (.tail _ (List.mem_append_right _ (.tail _ (.tail _ (.tail _ (List.mem_map.mpr ⟨r', hr', rfl⟩)))))))))
                  exact ⟨hm, News.twoPlaces N21 hm mA (tup_ne_cell dA6)⟩
                simp only [List.mem_cons, List.mem_append] at hp
                rcases hp with rfl | rfl | rfl | rfl | rfl | rfl | rfl | hp | rfl | rfl | hp
                · exact ⟨.head _, nDx (show (L' + 1 + 1, oA) ∈ ((I6, oI6) :: (L' + 1, oc) :: (lO, W.listOf os.toArray nO) :: (I, oI) :: (a.MP w i tl₀ ti₀ (refs (fr'.drop (k + 1))) pn ++ ((L' + 1 + 1, oA) :: (lF, W.listOf (refs fr').toArray nF) :: (lK, W.listOf (refs (fr.take k)).toArray nK) :: ex'.map rowObj))) from .tail _ (.tail _ (.tail _ (.tail _ (List.mem_append_right _ (.head _))))))⟩
                · exact row_ok r (hex6 r hrx)
                · exact row_ok r6 hrx6
                · exact ⟨.tail _ (.head _), Ne.symm (ha6 (L' + 1 + 1, oA) (.tail _ (.tail _ (List.mem_append_right _ (.head _))))).1⟩
                · exact ⟨.tail _ (.tail _ (.head _)), Ne.symm nCA⟩
                · exact ⟨.tail _ (.tail _ (.tail _ (.head _))), nOA⟩
                · exact ⟨.tail _ (.tail _ (.tail _ (.tail _ (.head _)))), nIA⟩
                · exact ⟨.tail _ (.tail _ (.tail _ (.tail _ (.tail _ (List.mem_append_left _ hp))))), mp_apart okA p hp⟩
                · exact ⟨.tail _ (.tail _ (.tail _ (.tail _ (.tail _ (List.mem_append_right _ (.tail _ (.head _))))))), Ne.symm (Nat.ne_of_lt ltF)⟩
                · exact ⟨.tail _ (.tail _ (.tail _ (.tail _ (.tail _ (List.mem_append_right _ (.tail _ (.tail _ (.head _)))))))), nKA⟩
                · obtain ⟨r', hr', rfl⟩ := List.mem_map.mp hp
                  exact row_ok r' hr'
              intro h15 oA' dA' F22 N22
              (try (with_reducible apply Hid.use; with_reducible assumption)); (try dsimp only)
              have hzl : (againstOf gc cc).length ≤ 3 := Nat.le_trans (List.length_filter_le _ _) (Nat.le_trans others_len hgc.1)
              replace hzs : IntsAre zs (againstOf gc cc) := hzs
              have hstep := fold_snoc (f := stepF gc) (b := FF cls k) hcj
              clear F21 N21 F19 N19 hLO hTup hcC X19 T19
              ((try ((with_reducible show wpAny _ _ (execs _ _) _ _ _); (fail_if_success (with_reducible show wpAny _ _ _ Qh _ _)); refine hideQ ?_; intro Qh hQh)); repeat' ((fail_if_success (with_reducible show wpAny _ _ (exec (PySem.Stmt.Assign _ (PySem.Expr.ListComp _ _ _ _) _) _) _ _ _)); (fail_if_success (with_reducible show wpAny _ _ (exec (PySem.Stmt.For _ _ _ _ _) _) _ _ _)); (fail_if_success (with_reducible show wpAny _ _ (eval (PySem.Expr.ListComp _ _ _ _) _) _ _ _)); (fail_if_success (with_reducible show wpAny _ _ (call (Value.builtin "isinstance") _ _) _ _ _)); (fail_if_success (with_reducible show wpAny _ _ (call (Value.builtin "list.append") _ _) _ _ _)); (fail_if_success (with_reducible show wpAny _ _ (compareOp CmpOp.NotIn (Value.ref _) (Value.ref _)) _ _ _)); (fail_if_success (with_reducible show wpAny _ _ (call (Value.ref _) _ _) _ _ _)); (first | walk1 | (dsimp only; walk1) | (with_reducible apply Hid.use; with_reducible assumption))))
              rotate_left 1
              · -- nothing to resolve
                (try (with_reducible apply Hid.use; with_reducible assumption)); (try dsimp only)
                rename (¬ _ = _) => hne
                have hne' : ¬ (againstOf gc cc).length = 1 := fun e => hne (by rw [e]; rfl)
                refine' TurnC.next (((lO, W.listOf os.toArray nO) :: (I, oI) :: (a.MP w i tl₀ ti₀ (refs (fr'.drop (k + 1))) pn ++ ((L' + 1 + 1, oA') :: (lF, W.listOf (refs fr').toArray nF) :: (lK, W.listOf (refs (fr.take k)).toArray nK) :: ex'.map rowObj)))) hoc (by k_asm) N22 (fun p hp => ?_) ?_ ⟨fr', ex', tail, pn, nF, oA', _, rfl, dA', ?_, hfe6, hex6, hxI6, htail, ?hmC⟩
                · (try dsimp only [RestF] at hp ⊢); exact pm_2 hp
                · refine fc ?_ (fc ?_ (fa (fun p hp => ?_) (fc ?_ (fc ?_ (fc ?_ (fun p hp => ?_))))))
                  · exact ha6 _ (.head _)
                  · exact ha6 _ (.tail _ (.head _))
                  · exact ha6 _ (.tail _ (.tail _ (List.mem_append_left _ hp)))
                  · exact ha6 (L' + 1 + 1, oA) (.tail _ (.tail _ (List.mem_append_right _ (.head _))))
                  · exact ha6 _ (.tail _ (.tail _ (List.mem_append_right _ (.tail _ (.head _)))))
                  · exact ha6 _ (.tail _ (.tail _ (List.mem_append_right _ (.tail _ (.tail _ (.head _))))))
                  · exact ha6 _ (.tail _ (.tail _ (List.mem_append_right _ (.tail _ (.tail _ (.tail _ hp))))))
                · rw [hstep, stepF, if_neg hne']; exact hfr6
                case hmC =>
                  rfl
              · -- the clause that they give
                rename (((againstOf gc cc).length : Int) = 1) => hone
                have hone' : (againstOf gc cc).length = 1 := by omega
                refine AssignComp_ (by rfl) ?_
                ((try ((with_reducible show wpAny _ _ (execs _ _) _ _ _); (fail_if_success (with_reducible show wpAny _ _ _ Qh _ _)); refine hideQ ?_; intro Qh hQh)); repeat' ((fail_if_success (with_reducible show wpAny _ _ (exec (PySem.Stmt.Assign _ (PySem.Expr.ListComp _ _ _ _) _) _) _ _ _)); (fail_if_success (with_reducible show wpAny _ _ (exec (PySem.Stmt.For _ _ _ _ _) _) _ _ _)); (fail_if_success (with_reducible show wpAny _ _ (eval (PySem.Expr.ListComp _ _ _ _) _) _ _ _)); (fail_if_success (with_reducible show wpAny _ _ (call (Value.builtin "isinstance") _ _) _ _ _)); (fail_if_success (with_reducible show wpAny _ _ (call (Value.builtin "list.append") _ _) _ _ _)); (fail_if_success (with_reducible show wpAny _ _ (compareOp CmpOp.NotIn (Value.ref _) (Value.ref _)) _ _ _)); (fail_if_success (with_reducible show wpAny _ _ (call (Value.ref _) _ _) _ _ _)); (first | walk1 | (dsimp only; walk1) | (with_reducible apply Hid.use; with_reducible assumption))))
                rename Fr _ _ _ _ => F23
                rename News _ _ _ _ => N23
                have hcA := News.get N23 (.head _)
                have hDl : Heap.IsList _ D zs.toArray := News.isList N23 (.tail _ (.head _))
                have hTup : Heap.IsTuple _ r6.1 r6.2.toArray := ⟨_, News.get N23 (.tail _ (.tail _ (.tail _ (.head _)))), rfl, _, rfl⟩
                have X23 := X.keeps F23.keep
                have T23 := T.keeps F23.keep
                refine comp_tupA (fun i ys news => news = [] ∧ IntsAre ys ((cc.take i).filter fun p => p != (againstOf gc cc).getD 0 0)) F23 N23 rfl hTup (by rw [List.size_toArray, hic.length, sizeLine_eq]; omega) ⟨rfl, .nil⟩ ?cS ?dS
                case cS =>
                  rintro i2 v2 ys news I7 C7 D7 oI7 g9 tk9 E7 hv7 ⟨rfl, hys⟩ F24 N24 ha7 hDI7
                  obtain ⟨o, to, rfl, ho⟩ := hic.at i2 v2 (by simpa using hv7)
                  have hDl7 := hDl.at fun o e => F24.keep _ o e
                  refine tests_one ?_
                  ((try ((with_reducible show wpAny _ _ (execs _ _) _ _ _); (fail_if_success (with_reducible show wpAny _ _ _ Qh _ _)); refine hideQ ?_; intro Qh hQh)); repeat' ((fail_if_success (with_reducible show wpAny _ _ (exec (PySem.Stmt.Assign _ (PySem.Expr.ListComp _ _ _ _) _) _) _ _ _)); (fail_if_success (with_reducible show wpAny _ _ (exec (PySem.Stmt.For _ _ _ _ _) _) _ _ _)); (fail_if_success (with_reducible show wpAny _ _ (eval (PySem.Expr.ListComp _ _ _ _) _) _ _ _)); (fail_if_success (with_reducible show wpAny _ _ (call (Value.builtin "isinstance") _ _) _ _ _)); (fail_if_success (with_reducible show wpAny _ _ (call (Value.builtin "list.append") _ _) _ _ _)); (fail_if_success (with_reducible show wpAny _ _ (compareOp CmpOp.NotIn (Value.ref _) (Value.ref _)) _ _ _)); (fail_if_success (with_reducible show wpAny _ _ (call (Value.ref _) _ _) _ _ _)); (first | walk1 | (dsimp only; walk1) | (with_reducible apply Hid.use; with_reducible assumption))))
                  refine CTest.intro [] (by k_asm) (by k_asm) (fun p hp => hp) (fun _ hp => by cases hp) ?_
                  have htk := filter_snoc (fun p => p != (againstOf gc cc).getD 0 0) ho
                  (try (with_reducible apply Hid.use; with_reducible assumption)); (try dsimp only)
                  try dsimp only [Int.toNat]
                  by_cases hp : (o != (againstOf gc cc).getD 0 0) = true
                  · rw [if_pos hp] at htk ⊢
                    intro oI8 h14 tk14 E14 F22 N22
                    ((try ((with_reducible show wpAny _ _ (execs _ _) _ _ _); (fail_if_success (with_reducible show wpAny _ _ _ Qh _ _)); refine hideQ ?_; intro Qh hQh)); repeat' ((fail_if_success (with_reducible show wpAny _ _ (exec (PySem.Stmt.Assign _ (PySem.Expr.ListComp _ _ _ _) _) _) _ _ _)); (fail_if_success (with_reducible show wpAny _ _ (exec (PySem.Stmt.For _ _ _ _ _) _) _ _ _)); (fail_if_success (with_reducible show wpAny _ _ (eval (PySem.Expr.ListComp _ _ _ _) _) _ _ _)); (fail_if_success (with_reducible show wpAny _ _ (call (Value.builtin "isinstance") _ _) _ _ _)); (fail_if_success (with_reducible show wpAny _ _ (call (Value.builtin "list.append") _ _) _ _ _)); (fail_if_success (with_reducible show wpAny _ _ (compareOp CmpOp.NotIn (Value.ref _) (Value.ref _)) _ _ _)); (fail_if_success (with_reducible show wpAny _ _ (call (Value.ref _) _ _) _ _ _)); (first | walk1 | (dsimp only; walk1) | (with_reducible apply Hid.use; with_reducible assumption))))
                    refine CElt.intro [] (by k_asm) (by k_asm) (fun p hp => hp) (fun _ hp => by cases hp) ⟨rfl, ?_⟩
                    rw [htk]
                    exact ints_snoc hys
                  · rw [if_neg hp] at htk ⊢
                    rw [List.append_nil] at htk
                    exact ⟨rfl, htk ▸ hys⟩
                case dS =>
                  rintro D2 g9 tk9 zs2 news ⟨rfl, hzs2⟩ F24 N24 hne9 hDn
                  have nD2 : ∀ p ∈ ((L' + 1 + 1, oA') :: (D, W.listOf zs.toArray zs.length) :: (r.1, tupO r.2) :: (r6.1, tupO r6.2) :: (I6, oI6) :: (L' + 1, oc) :: (lO, W.listOf os.toArray nO) :: (I, oI) :: (a.MP w i tl₀ ti₀ (refs (fr'.drop (k + 1))) pn ++ ((lF, W.listOf (refs fr').toArray nF) :: (lK, W.listOf (refs (fr.take k)).toArray nK) :: ex'.map rowObj))), @Ne Nat p.1 D2 := fun p hm e => by
                    have z := (N23 p hm).1
                    rw [show p.1 = D2 from e, hDn] at z; cases z
                  rw [List.size_toArray, hic.length, List.take_length] at hzs2
                  have hzq : True → IntsAre zs2 (spareOf gc cc ((againstOf gc cc).getD 0 0) 0) := fun _ => hzs2
                  clear F23 N23 X23 T23
                  have hTup : Heap.IsTuple _ r.1 r.2.toArray := ⟨_, News.get N24 (.tail _ (.tail _ (.tail _ (.head _)))), rfl, _, rfl⟩
                  ((try ((with_reducible show wpAny _ _ (execs _ _) _ _ _); (fail_if_success (with_reducible show wpAny _ _ _ Qh _ _)); refine hideQ ?_; intro Qh hQh)); repeat' ((fail_if_success (with_reducible show wpAny _ _ (exec (PySem.Stmt.Assign _ (PySem.Expr.ListComp _ _ _ _) _) _) _ _ _)); (fail_if_success (with_reducible show wpAny _ _ (exec (PySem.Stmt.For _ _ _ _ _) _) _ _ _)); (fail_if_success (with_reducible show wpAny _ _ (eval (PySem.Expr.ListComp _ _ _ _) _) _ _ _)); (fail_if_success (with_reducible show wpAny _ _ (call (Value.builtin "isinstance") _ _) _ _ _)); (fail_if_success (with_reducible show wpAny _ _ (call (Value.builtin "list.append") _ _) _ _ _)); (fail_if_success (with_reducible show wpAny _ _ (compareOp CmpOp.NotIn (Value.ref _) (Value.ref _)) _ _ _)); (fail_if_success (with_reducible show wpAny _ _ (call (Value.ref _) _ _) _ _ _)); (first | walk1 | (dsimp only; walk1) | (with_reducible apply Hid.use; with_reducible assumption))))
                  refine For_ ?_
                  ((try ((with_reducible show wpAny _ _ (execs _ _) _ _ _); (fail_if_success (with_reducible show wpAny _ _ _ Qh _ _)); refine hideQ ?_; intro Qh hQh)); repeat' ((fail_if_success (with_reducible show wpAny _ _ (exec (PySem.Stmt.Assign _ (PySem.Expr.ListComp _ _ _ _) _) _) _ _ _)); (fail_if_success (with_reducible show wpAny _ _ (exec (PySem.Stmt.For _ _ _ _ _) _) _ _ _)); (fail_if_success (with_reducible show wpAny _ _ (eval (PySem.Expr.ListComp _ _ _ _) _) _ _ _)); (fail_if_success (with_reducible show wpAny _ _ (call (Value.builtin "isinstance") _ _) _ _ _)); (fail_if_success (with_reducible show wpAny _ _ (call (Value.builtin "list.append") _ _) _ _ _)); (fail_if_success (with_reducible show wpAny _ _ (compareOp CmpOp.NotIn (Value.ref _) (Value.ref _)) _ _ _)); (fail_if_success (with_reducible show wpAny _ _ (call (Value.ref _) _ _) _ _ _)); (first | walk1 | (dsimp only; walk1) | (with_reducible apply Hid.use; with_reducible assumption))))
                  refine PyProof.Rows.len_tuple hTup (by rw [List.size_toArray, hig.length]; omega) ?_
                  ((try ((with_reducible show wpAny _ _ (execs _ _) _ _ _); (fail_if_success (with_reducible show wpAny _ _ _ Qh _ _)); refine hideQ ?_; intro Qh hQh)); repeat' ((fail_if_success (with_reducible show wpAny _ _ (exec (PySem.Stmt.Assign _ (PySem.Expr.ListComp _ _ _ _) _) _) _ _ _)); (fail_if_success (with_reducible show wpAny _ _ (exec (PySem.Stmt.For _ _ _ _ _) _) _ _ _)); (fail_if_success (with_reducible show wpAny _ _ (eval (PySem.Expr.ListComp _ _ _ _) _) _ _ _)); (fail_if_success (with_reducible show wpAny _ _ (call (Value.builtin "isinstance") _ _) _ _ _)); (fail_if_success (with_reducible show wpAny _ _ (call (Value.builtin "list.append") _ _) _ _ _)); (fail_if_success (with_reducible show wpAny _ _ (compareOp CmpOp.NotIn (Value.ref _) (Value.ref _)) _ _ _)); (fail_if_success (with_reducible show wpAny _ _ (call (Value.ref _) _ _) _ _ _)); (first | walk1 | (dsimp only; walk1) | (with_reducible apply Hid.use; with_reducible assumption))))
                  (try (with_reducible apply Hid.use; with_reducible assumption)); (try dsimp only)
                  rename Fr _ _ _ _ => F25
                  rename News _ _ _ _ => N25
                  rename IsRange _ _ _ _ _ _ _ _ => hr
                  have hgl := others_len_eq (g := gc)
                  refine for_range (n := r.2.length)
                    (fun k2 m news => Ex2 fun (ss : List Value) (nS : Nat) => A3 (news = (D2, W.listOf ss.toArray nS) :: (L' + 1 + 1, oA') :: (D, W.listOf zs.toArray zs.length) :: (r.1, tupO r.2) :: (r6.1, tupO r6.2) :: (I6, oI6) :: (L' + 1, oc) :: (lO, W.listOf os.toArray nO) :: (I, oI) :: (a.MP w i tl₀ ti₀ (refs (fr'.drop (k + 1))) pn ++ ((lF, W.listOf (refs fr').toArray nF) :: (lK, W.listOf (refs (fr.take k)).toArray nK) :: ex'.map rowObj))) (IntsAre ss (spareOf gc cc ((againstOf gc cc).getD 0 0) k2)) (gotN m [((PySem.Str.ofString "spare"), Value.ref D2), ((PySem.Str.ofString "others"), Value.ref lO), ((PySem.Str.ofString "got"), Value.ref r.1), ((PySem.Str.ofString "came"), Value.ref lK), ((PySem.Str.ofString "found"), Value.ref lF), ((PySem.Str.ofString "lexer"), Value.ref a.x)] = wantN [((PySem.Str.ofString "spare"), Value.ref D2), ((PySem.Str.ofString "others"), Value.ref lO), ((PySem.Str.ofString "got"), Value.ref r.1), ((PySem.Str.ofString "came"), Value.ref lK), ((PySem.Str.ofString "found"), Value.ref lF), ((PySem.Str.ofString "lexer"), Value.ref a.x)]))
                    rfl F25 N25 hr (rsmall _ (by rw [hig.length]; omega)) (rsize _) ⟨zs2, zs2.length, rfl, hzq trivial, ?hm8⟩ ?turn8 ?done8
                  case hm8 =>
                    rfl
                  case turn8 =>
                    rintro k2 tv m news I7 oI7 h16 tk16 E16 hk2 ⟨ss, nS, rfl, hss, hm⟩ F26 N26 ha7 hfI7
                    rw [hig.length] at hk2
                    clear F25 N25 hr
                    replace F26 := frNamesE _ F26 hm
                    have hTupG : PyProof.Rows.IsTup _ r.1 r.2.toArray := ⟨_, News.get N26 (.tail _ (.tail _ (.tail _ (.tail _ (.head _))))), rfl, _, rfl⟩
                    have hcA := News.get N26 (.tail _ (.tail _ (.head _)))
                    have hDl : Heap.IsList _ D zs.toArray := News.isList N26 (.tail _ (.tail _ (.tail _ (.head _))))
                    have hLO : Heap.IsList _ lO os.toArray := News.isList N26 (.tail _ (.tail _ (.tail _ (.tail _ (.tail _ (.tail _ (.tail _ (.tail _ (.head _)))))))))
                    have hSS : Heap.IsList _ D2 ss.toArray := News.isList N26 (.tail _ (.head _))
                    ((try ((with_reducible show wpAny _ _ (execs _ _) _ _ _); (fail_if_success (with_reducible show wpAny _ _ _ Qh _ _)); refine hideQ ?_; intro Qh hQh)); repeat' ((fail_if_success (with_reducible show wpAny _ _ (exec (PySem.Stmt.Assign _ (PySem.Expr.ListComp _ _ _ _) _) _) _ _ _)); (fail_if_success (with_reducible show wpAny _ _ (exec (PySem.Stmt.For _ _ _ _ _) _) _ _ _)); (fail_if_success (with_reducible show wpAny _ _ (eval (PySem.Expr.ListComp _ _ _ _) _) _ _ _)); (fail_if_success (with_reducible show wpAny _ _ (call (Value.builtin "isinstance") _ _) _ _ _)); (fail_if_success (with_reducible show wpAny _ _ (call (Value.builtin "list.append") _ _) _ _ _)); (fail_if_success (with_reducible show wpAny _ _ (compareOp CmpOp.NotIn (Value.ref _) (Value.ref _)) _ _ _)); (fail_if_success (with_reducible show wpAny _ _ (call (Value.ref _) _ _) _ _ _)); (first | walk1 | (dsimp only; walk1) | (with_reducible apply Hid.use; with_reducible assumption))))
                    · rename (List.any _ _ = true) => q2
                      refine Turn.next _ (by k_asm) N26 (fun p hp => hp) ha7 ⟨ss, nS, rfl, ?_, ?_⟩
                      · rw [spare_in q2]; exact hss
                      · rfl
                    · rename (List.any _ _ = false) => q2
                      rename (_ ≠ _) => q1
                      have hsl := spareOf_len (g := gc) (c := cc) (a := (againstOf gc cc).getD 0 0) (k := k2)
                      refine append_2 F26 N26 (by rw [hss.length]; omega) (ha7 _ (.head _)) nD2 ?_
                      intro h17 F27 N27
                      ((try ((with_reducible show wpAny _ _ (execs _ _) _ _ _); (fail_if_success (with_reducible show wpAny _ _ _ Qh _ _)); refine hideQ ?_; intro Qh hQh)); repeat' ((fail_if_success (with_reducible show wpAny _ _ (exec (PySem.Stmt.Assign _ (PySem.Expr.ListComp _ _ _ _) _) _) _ _ _)); (fail_if_success (with_reducible show wpAny _ _ (exec (PySem.Stmt.For _ _ _ _ _) _) _ _ _)); (fail_if_success (with_reducible show wpAny _ _ (eval (PySem.Expr.ListComp _ _ _ _) _) _ _ _)); (fail_if_success (with_reducible show wpAny _ _ (call (Value.builtin "isinstance") _ _) _ _ _)); (fail_if_success (with_reducible show wpAny _ _ (call (Value.builtin "list.append") _ _) _ _ _)); (fail_if_success (with_reducible show wpAny _ _ (compareOp CmpOp.NotIn (Value.ref _) (Value.ref _)) _ _ _)); (fail_if_success (with_reducible show wpAny _ _ (call (Value.ref _) _ _) _ _ _)); (first | walk1 | (dsimp only; walk1) | (with_reducible apply Hid.use; with_reducible assumption))))
                      refine Turn.next _ (by k_asm) N27 (fun p hp => hp) ?_ ⟨_, nS + 1, rfl, ?_, ?_⟩
                      · intro p hp
                        rcases List.mem_cons.mp hp with rfl | hp
                        · exact ha7 (D2, W.listOf ss.toArray nS) (.head _)
                        · exact ha7 _ (.tail _ hp)
                      · rw [spare_new (c := cc) (a := (againstOf gc cc).getD 0 0) q1 q2]; exact ints_snoc hss
                      · rfl
                    · rename (_ = _) => q1
                      refine Turn.next _ (by k_asm) N26 (fun p hp => hp) ha7 ⟨ss, nS, rfl, ?_, ?_⟩
                      · rw [spare_eq (c := cc) (a := (againstOf gc cc).getD 0 0) q1]; exact hss
                      · rfl
                  case done8 =>
                    rintro m news h18 tk18 ⟨ss, nS, rfl, hss, hm⟩ F28 N28
                    rw [hig.length] at hss
                    clear F25 N25 hr
                    replace F28 := frNamesE' _ F28 hm
                    have hsl := spareOf_len (g := gc) (c := cc) (a := (againstOf gc cc).getD 0 0) (k := gc.length)
                    have hSS : Heap.IsList _ D2 ss.toArray := News.isList N28 (.head _)
                    ((try ((with_reducible show wpAny _ _ (execs _ _) _ _ _); (fail_if_success (with_reducible show wpAny _ _ _ Qh _ _)); refine hideQ ?_; intro Qh hQh)); repeat' ((fail_if_success (with_reducible show wpAny _ _ (exec (PySem.Stmt.Assign _ (PySem.Expr.ListComp _ _ _ _) _) _) _ _ _)); (fail_if_success (with_reducible show wpAny _ _ (exec (PySem.Stmt.For _ _ _ _ _) _) _ _ _)); (fail_if_success (with_reducible show wpAny _ _ (eval (PySem.Expr.ListComp _ _ _ _) _) _ _ _)); (fail_if_success (with_reducible show wpAny _ _ (call (Value.builtin "sorted") _ _) _ _ _)); (fail_if_success (with_reducible show wpAny _ _ (call (Value.type "tuple") _ _) _ _ _)); (fail_if_success (with_reducible show wpAny _ _ (call (Value.builtin "len") _ _) _ _ _)); (fail_if_success (with_reducible show wpAny _ _ (call (Value.builtin "list.append") _ _) _ _ _)); (fail_if_success (with_reducible show wpAny _ _ (compareOp CmpOp.NotIn (Value.ref _) (Value.ref _)) _ _ _)); (fail_if_success (with_reducible show wpAny _ _ (call (Value.ref _) _ _) _ _ _)); (first | walk1 | (dsimp only; walk1) | (with_reducible apply Hid.use; with_reducible assumption))))
                    refine PySem.W.kso_sorted (by assumption) (by assumption) hSS hss (by omega) ?_
                    intro D5 v5 ns5 c5 h19 F29 N29 lt29 hi5 hln5 hpm hsr _
                    have hsrt := PySem.W.eq_sortI hpm hsr
                    have hl6 := hi5.length
                    replace hi5 : IntsAre v5 (freshOf gc cc) := by rw [hsrt] at hi5; exact hi5
                    have hi5q : True → IntsAre v5 (freshOf gc cc) := fun _ => hi5
                    have hl5 := hpm.length_eq
                    clear N28 F28 hSS hss
                    ((try ((with_reducible show wpAny _ _ (execs _ _) _ _ _); (fail_if_success (with_reducible show wpAny _ _ _ Qh _ _)); refine hideQ ?_; intro Qh hQh)); repeat' ((fail_if_success (with_reducible show wpAny _ _ (exec (PySem.Stmt.Assign _ (PySem.Expr.ListComp _ _ _ _) _) _) _ _ _)); (fail_if_success (with_reducible show wpAny _ _ (exec (PySem.Stmt.For _ _ _ _ _) _) _ _ _)); (fail_if_success (with_reducible show wpAny _ _ (eval (PySem.Expr.ListComp _ _ _ _) _) _ _ _)); (fail_if_success (with_reducible show wpAny _ _ (call (Value.builtin "sorted") _ _) _ _ _)); (fail_if_success (with_reducible show wpAny _ _ (call (Value.type "tuple") _ _) _ _ _)); (fail_if_success (with_reducible show wpAny _ _ (call (Value.builtin "len") _ _) _ _ _)); (fail_if_success (with_reducible show wpAny _ _ (call (Value.builtin "list.append") _ _) _ _ _)); (fail_if_success (with_reducible show wpAny _ _ (compareOp CmpOp.NotIn (Value.ref _) (Value.ref _)) _ _ _)); (fail_if_success (with_reducible show wpAny _ _ (call (Value.ref _) _ _) _ _ _)); (first | walk1 | (dsimp only; walk1) | (with_reducible apply Hid.use; with_reducible assumption))))
                    rename Fr _ _ _ _ => F29
                    rename News _ _ _ _ => N29
                    have hIL : Heap.IsList _ D5 v5.toArray := News.isList N29 (.head _)
                    refine PySem.W.kde_tupleOf (zs := v5) (items := v5.toArray) F29 N29 hIL (by rw [List.size_toArray]; omega) (by simp) ?_
                    intro DT h20 F30 N30 lt30
                    clear F29 N29 hIL
                    try dsimp only at F30 N30 ⊢
                    have nFD : @Ne Nat lF DT := Nat.ne_of_lt (lt30 (lF, W.listOf (refs fr').toArray nF) (by simp))
                    have nIJ : @Ne Nat DT I6 := Nat.ne_of_gt (lt30 (I6, oI6) (by simp))
                    have nCD : @Ne Nat DT (L' + 1) := Nat.ne_of_gt (lt30 (L' + 1, oc) (by simp))
                    have nID : @Ne Nat DT I := Nat.ne_of_gt (lt30 (I, oI) (by simp))
                    ((try ((with_reducible show wpAny _ _ (execs _ _) _ _ _); (fail_if_success (with_reducible show wpAny _ _ _ Qh _ _)); refine hideQ ?_; intro Qh hQh)); repeat' ((fail_if_success (with_reducible show wpAny _ _ (exec (PySem.Stmt.Assign _ (PySem.Expr.ListComp _ _ _ _) _) _) _ _ _)); (fail_if_success (with_reducible show wpAny _ _ (exec (PySem.Stmt.For _ _ _ _ _) _) _ _ _)); (fail_if_success (with_reducible show wpAny _ _ (eval (PySem.Expr.ListComp _ _ _ _) _) _ _ _)); (fail_if_success (with_reducible show wpAny _ _ (call (Value.builtin "isinstance") _ _) _ _ _)); (fail_if_success (with_reducible show wpAny _ _ (call (Value.builtin "list.append") _ _) _ _ _)); (fail_if_success (with_reducible show wpAny _ _ (compareOp CmpOp.NotIn (Value.ref _) (Value.ref _)) _ _ _)); (fail_if_success (with_reducible show wpAny _ _ (call (Value.ref _) _ _) _ _ _)); (first | walk1 | (dsimp only; walk1) | (with_reducible apply Hid.use; with_reducible assumption))))
                    rename Fr _ _ _ _ => F31
                    rename News _ _ _ _ => N31
                    have N32 : News g L' _ ((DT, tupO v5) :: (lF, W.listOf (refs fr').toArray nF) :: (I6, oI6) :: (L' + 1, oc) :: (lO, W.listOf os.toArray nO) :: (I, oI) :: (a.MP w i tl₀ ti₀ (refs (fr'.drop (k + 1))) pn ++ ((L' + 1 + 1, oA') :: (lK, W.listOf (refs (fr.take k)).toArray nK) :: ex'.map rowObj))) := N31.perm (fun p hp => by
                      (try dsimp only [RestF] at hp ⊢); exact pm_3 hp)
                    have mR : ∀ r ∈ ex', rowObj r ∈ ((DT, tupO v5) :: (lF, W.listOf (refs fr').toArray nF) :: (I6, oI6) :: (L' + 1, oc) :: (lO, W.listOf os.toArray nO) :: (I, oI) :: (a.MP w i tl₀ ti₀ (refs (fr'.drop (k + 1))) pn ++ ((L' + 1 + 1, oA') :: (lK, W.listOf (refs (fr.take k)).toArray nK) :: ex'.map rowObj))) := fun r hr => .tail _ (.tail _ (.tail _ (.tail _ (.tail _ (.tail _ (List.mem_append_right _ (.tail _ (.tail _ (List.mem_map.mpr ⟨r, hr, rfl⟩)))))))))
                    refine notin_rows (rows := fr') (Nat.le_of_ble_eq_true rfl) (News.get N32 (.tail _ (.head _))) (fun r hr => News.get N32 (mR r (hfe6 r hr))) hfr6 (News.get N32 (.head _)) (hi5q trivial) ?_
                    have hapN : ∀ (vs : List Value) (pn : Nat) (oA oF oK : Obj) (rows : List (Addr × List Value)), (∀ r ∈ rows, @Ne Nat r.1 I6 ∧ @Ne Nat r.1 (L' + 1)) → ∀ p ∈ ((lO, W.listOf os.toArray nO) :: (I, oI) :: (a.MP w i tl₀ ti₀ vs pn ++ ((L' + 1 + 1, oA) :: (lF, oF) :: (lK, oK) :: rows.map rowObj))), @Ne Nat p.1 I6 ∧ @Ne Nat p.1 (L' + 1) := by
                      intro vs pn2 oA2 oF oK rows hrows
                      refine fc ?_ (fc ?_ (fa (fun p hp => ?_) (fc ?_ (fc ?_ (fc ?_ (fun p hp => ?_))))))
                      · exact ha6 _ (.head _)
                      · exact ha6 _ (.tail _ (.head _))
                      · have hm : p.1 ∈ (a.MP w i tl₀ ti₀ (refs (fr'.drop (k + 1))) pn).map (·.1) := by
                          rw [Lx.MP_keys (j := i) (tl' := tl₀) (ti' := ti₀) (vs' := vs) (n' := pn2)]
                          exact List.mem_map.mpr ⟨p, hp, rfl⟩
                        obtain ⟨p', hp', e'⟩ := List.mem_map.mp hm
                        have := ha6 p' (.tail _ (.tail _ (List.mem_append_left _ hp')))
                        rw [e'] at this
                        exact this
                      · exact ha6 (L' + 1 + 1, oA) (.tail _ (.tail _ (List.mem_append_right _ (.head _))))
                      · exact ha6 (lF, W.listOf (refs fr').toArray nF) (.tail _ (.tail _ (List.mem_append_right _ (.tail _ (.head _)))))
                      · exact ha6 (lK, W.listOf (refs (fr.take k)).toArray nK) (.tail _ (.tail _ (List.mem_append_right _ (.tail _ (.tail _ (.head _))))))
                      · obtain ⟨r', hr', rfl⟩ := List.mem_map.mp hp
                        exact hrows r' hr'
                    have hexN : ∀ r ∈ ex', @Ne Nat r.1 I6 ∧ @Ne Nat r.1 (L' + 1) := fun r hr => ha6 (rowObj r) (.tail _ (.tail _ (List.mem_append_right _ (.tail _ (.tail _ (.tail _ (List.mem_map.mpr ⟨r, hr, rfl⟩)))))))
                    by_cases hin : freshOf gc cc ∈ ((FF cls k).take j).foldl (stepF gc) (FF cls k)
                    · rw [decide_eq_false (p := freshOf gc cc ∉ ((FF cls k).take j).foldl (stepF gc) (FF cls k)) (fun z => z hin)]
                      clear N31
                      ((try ((with_reducible show wpAny _ _ (execs _ _) _ _ _); (fail_if_success (with_reducible show wpAny _ _ _ Qh _ _)); refine hideQ ?_; intro Qh hQh)); repeat' ((fail_if_success (with_reducible show wpAny _ _ (exec (PySem.Stmt.Assign _ (PySem.Expr.ListComp _ _ _ _) _) _) _ _ _)); (fail_if_success (with_reducible show wpAny _ _ (exec (PySem.Stmt.For _ _ _ _ _) _) _ _ _)); (fail_if_success (with_reducible show wpAny _ _ (eval (PySem.Expr.ListComp _ _ _ _) _) _ _ _)); (fail_if_success (with_reducible show wpAny _ _ (call (Value.builtin "isinstance") _ _) _ _ _)); (fail_if_success (with_reducible show wpAny _ _ (call (Value.builtin "list.append") _ _) _ _ _)); (fail_if_success (with_reducible show wpAny _ _ (compareOp CmpOp.NotIn (Value.ref _) (Value.ref _)) _ _ _)); (fail_if_success (with_reducible show wpAny _ _ (call (Value.ref _) _ _) _ _ _)); (first | walk1 | (dsimp only; walk1) | (with_reducible apply Hid.use; with_reducible assumption))))
                      (try (with_reducible apply Hid.use; with_reducible assumption)); (try dsimp only)
                      refine' TurnC.next ((lO, W.listOf os.toArray nO) :: (I, oI) :: (a.MP w i tl₀ ti₀ (refs (fr'.drop (k + 1))) pn ++ ((L' + 1 + 1, oA') :: (lF, W.listOf (refs fr').toArray nF) :: (lK, W.listOf (refs (fr.take k)).toArray nK) :: ex'.map rowObj))) hoc (by k_asm) N32 (fun p hp => ?_) (hapN _ _ _ _ _ _ hexN) ⟨fr', ex', tail, pn, nF, oA', _, rfl, dA', ?_, hfe6, hex6, hxI6, htail, ?hmD⟩
                      · (try dsimp only [RestF] at hp ⊢); exact pm_4 hp
                      · rw [hstep, stepF, if_pos hone', addNew, if_pos hin]; exact hfr6
                      case hmD =>
                        rfl
                    · rw [decide_eq_true (p := freshOf gc cc ∉ ((FF cls k).take j).foldl (stepF gc) (FF cls k)) hin]
                      clear N31
                      ((try ((with_reducible show wpAny _ _ (execs _ _) _ _ _); (fail_if_success (with_reducible show wpAny _ _ _ Qh _ _)); refine hideQ ?_; intro Qh hQh)); repeat' ((fail_if_success (with_reducible show wpAny _ _ (exec (PySem.Stmt.Assign _ (PySem.Expr.ListComp _ _ _ _) _) _) _ _ _)); (fail_if_success (with_reducible show wpAny _ _ (exec (PySem.Stmt.For _ _ _ _ _) _) _ _ _)); (fail_if_success (with_reducible show wpAny _ _ (eval (PySem.Expr.ListComp _ _ _ _) _) _ _ _)); (fail_if_success (with_reducible show wpAny _ _ (call (Value.builtin "isinstance") _ _) _ _ _)); (fail_if_success (with_reducible show wpAny _ _ (call (Value.builtin "list.append") _ _) _ _ _)); (fail_if_success (with_reducible show wpAny _ _ (compareOp CmpOp.NotIn (Value.ref _) (Value.ref _)) _ _ _)); (fail_if_success (with_reducible show wpAny _ _ (call (Value.ref _) _ _) _ _ _)); (first | walk1 | (dsimp only; walk1) | (with_reducible apply Hid.use; with_reducible assumption))))
                      rename Fr _ _ _ _ => F32
                      rename News _ _ _ _ => N33
                      have nRF : ∀ r ∈ ex', @Ne Nat r.1 lF := fun r hr => News.twoPlaces N33 (mR r hr) (.tail _ (.head _)) tup_ne_list
                      have nRS : ∀ p ∈ ((I6, oI6) :: (L' + 1, oc) :: (lO, W.listOf os.toArray nO) :: (I, oI) :: (a.MP w i tl₀ ti₀ (refs (fr'.drop (k + 1))) pn ++ ((L' + 1 + 1, oA') :: (lK, W.listOf (refs (fr.take k)).toArray nK) :: ex'.map rowObj))), @Ne Nat p.1 lF := by
                        refine fc ?_ (fc ?_ (fc ?_ (fc ?_ (fa (fun p hp => ?_) (fc ?_ (fc ?_ (fun p hp => ?_)))))))
                        · exact Ne.symm (ha6 (lF, W.listOf (refs fr').toArray nF) (.tail _ (.tail _ (List.mem_append_right _ (.tail _ (.head _)))))).1
                        · exact Ne.symm nCF
                        · exact nOF
                        · exact nIF
                        · exact mp_apart okF p hp
                        · exact Nat.ne_of_lt ltF
                        · exact nKF
                        · obtain ⟨r', hr', rfl⟩ := List.mem_map.mp hp
                          exact nRF r' hr'
                      refine append_2 F32 N33 (by rw [refs_len]; omega) nFD nRS ?_
                      intro h21 F34 N34
                      clear F32 N33
                      rw [refs_snoc (r := (DT, v5))] at N34
                      ((try ((with_reducible show wpAny _ _ (execs _ _) _ _ _); (fail_if_success (with_reducible show wpAny _ _ _ Qh _ _)); refine hideQ ?_; intro Qh hQh)); repeat' ((fail_if_success (with_reducible show wpAny _ _ (exec (PySem.Stmt.Assign _ (PySem.Expr.ListComp _ _ _ _) _) _) _ _ _)); (fail_if_success (with_reducible show wpAny _ _ (exec (PySem.Stmt.For _ _ _ _ _) _) _ _ _)); (fail_if_success (with_reducible show wpAny _ _ (eval (PySem.Expr.ListComp _ _ _ _) _) _ _ _)); (fail_if_success (with_reducible show wpAny _ _ (call (Value.builtin "isinstance") _ _) _ _ _)); (fail_if_success (with_reducible show wpAny _ _ (call (Value.builtin "list.append") _ _) _ _ _)); (fail_if_success (with_reducible show wpAny _ _ (compareOp CmpOp.NotIn (Value.ref _) (Value.ref _)) _ _ _)); (fail_if_success (with_reducible show wpAny _ _ (call (Value.ref _) _ _) _ _ _)); (first | walk1 | (dsimp only; walk1) | (with_reducible apply Hid.use; with_reducible assumption))))
                      rename Fr _ _ _ _ => F35
                      rename News _ _ _ _ => N35
                      have N36 : News g L' _ (a.MP w i tl₀ ti₀ (refs (fr'.drop (k + 1))) pn ++ ((DT, tupO v5) :: (I6, oI6) :: (L' + 1, oc) :: (lO, W.listOf os.toArray nO) :: (I, oI) :: (L' + 1 + 1, oA') :: (lF, W.listOf (refs (fr' ++ [(DT, v5)])).toArray (nF + 1)) :: (lK, W.listOf (refs (fr.take k)).toArray nK) :: ex'.map rowObj)) := N35.perm (fun p hp => by
                        (try dsimp only [RestF] at hp ⊢); exact pm_5 hp)
                      have kI6 : I6 ∉ (a.MP w 0 0 0 [] 0).map (·.1) := by
                        intro hm
                        rw [Lx.MP_keys (j := i) (tl' := tl₀) (ti' := ti₀) (vs' := refs (fr'.drop (k + 1))) (n' := pn)] at hm
                        obtain ⟨p, hp, e⟩ := List.mem_map.mp hm
                        exact (ha6 p (.tail _ (.tail _ (List.mem_append_left _ hp)))).1 e
                      have hMPn : ∀ p ∈ (a.MP w i tl₀ ti₀ (refs (fr'.drop (k + 1))) pn), Heap.get? _ p.1 = some p.2 := fun p hp => (N36 p (List.mem_append_left _ hp)).1
                      have krows : ∀ p ∈ ((DT, tupO v5) :: (I6, oI6) :: (L' + 1, oc) :: (lO, W.listOf os.toArray nO) :: (I, oI) :: (L' + 1 + 1, oA') :: (lF, W.listOf (refs (fr' ++ [(DT, v5)])).toArray (nF + 1)) :: (lK, W.listOf (refs (fr.take k)).toArray nK) :: ex'.map rowObj), p.1 ∉ (a.MP w 0 0 0 [] 0).map (·.1) := by
                        intro p hp
                        have hpN := hp
                        simp only [List.mem_cons] at hp
                        rcases hp with rfl | rfl | rfl | rfl | rfl | rfl | rfl | rfl | hp
                        · exact tup_off ok hMPn (N36 _ (List.mem_append_right _ hpN)).1
                        · exact kI6
                        · exact fun hm => okC _ hm rfl
                        · exact fun hm => okO _ hm rfl
                        · exact fun hm => hIk _ hm rfl
                        · exact fun hm => okA _ hm rfl
                        · exact fun hm => okF _ hm rfl
                        · exact fun hm => okK _ hm rfl
                        · obtain ⟨r', hr', rfl⟩ := List.mem_map.mp hp
                          exact tup_off ok hMPn (N36 _ (List.mem_append_right _ hpN)).1
                      refine wpAny_call (push_call (a := a) (i := i) (tl := tl₀) (ti := ti₀) (n := pn) (vs := refs (fr'.drop (k + 1))) (v := .ref DT) (rest := ((DT, tupO v5) :: (I6, oI6) :: (L' + 1, oc) :: (lO, W.listOf os.toArray nO) :: (I, oI) :: (L' + 1 + 1, oA') :: (lF, W.listOf (refs (fr' ++ [(DT, v5)])).toArray (nF + 1)) :: (lK, W.listOf (refs (fr.take k)).toArray nK) :: ex'.map rowObj)) ok okp (by rw [refs_len, List.length_drop]; omega) rfl (Nat.le_of_ble_eq_true rfl) (Nat.le_of_ble_eq_true rfl) X T F35 N36 krows ?_)
                      intro h22 tk22 pn' F37 N37
                      clear F35 N35 N36
                      have htl : k + 1 ≤ fr'.length := by rw [htail, List.length_append]; omega
                      have hdrp : refs (fr'.drop (k + 1)) ++ [Value.ref DT] = refs ((fr' ++ [(DT, v5)]).drop (k + 1)) := by
                        rw [refs_snoc (r := (DT, v5)), List.drop_append_of_le_length htl]
                      rw [hdrp] at N37
                      (try (with_reducible apply Hid.use; with_reducible assumption)); (try dsimp only)
                      ((try ((with_reducible show wpAny _ _ (execs _ _) _ _ _); (fail_if_success (with_reducible show wpAny _ _ _ Qh _ _)); refine hideQ ?_; intro Qh hQh)); repeat' ((fail_if_success (with_reducible show wpAny _ _ (exec (PySem.Stmt.Assign _ (PySem.Expr.ListComp _ _ _ _) _) _) _ _ _)); (fail_if_success (with_reducible show wpAny _ _ (exec (PySem.Stmt.For _ _ _ _ _) _) _ _ _)); (fail_if_success (with_reducible show wpAny _ _ (eval (PySem.Expr.ListComp _ _ _ _) _) _ _ _)); (fail_if_success (with_reducible show wpAny _ _ (call (Value.builtin "isinstance") _ _) _ _ _)); (fail_if_success (with_reducible show wpAny _ _ (call (Value.builtin "list.append") _ _) _ _ _)); (fail_if_success (with_reducible show wpAny _ _ (compareOp CmpOp.NotIn (Value.ref _) (Value.ref _)) _ _ _)); (fail_if_success (with_reducible show wpAny _ _ (call (Value.ref _) _ _) _ _ _)); (first | walk1 | (dsimp only; walk1) | (with_reducible apply Hid.use; with_reducible assumption))))
                      (try (with_reducible apply Hid.use; with_reducible assumption)); (try dsimp only)
                      refine' TurnC.next ((lO, W.listOf os.toArray nO) :: (I, oI) :: (a.MP w i tl₀ ti₀ (refs ((fr' ++ [(DT, v5)]).drop (k + 1))) pn' ++ ((L' + 1 + 1, oA') :: (lF, W.listOf (refs (fr' ++ [(DT, v5)])).toArray (nF + 1)) :: (lK, W.listOf (refs (fr.take k)).toArray nK) :: (ex' ++ [(DT, v5)]).map rowObj))) hoc (by k_asm) N37 (fun p hp => ?_) (hapN _ _ _ _ _ _ ?hexM) ⟨fr' ++ [(DT, v5)], ex' ++ [(DT, v5)], tail ++ [(DT, v5)], pn', nF + 1, oA', _, rfl, dA', ?_, ?hfeM, ?hexMM, ?hxIM, ?htM, ?hmE⟩
                      case hexM =>
                        intro r' hr'
                        rcases List.mem_append.mp hr' with hr' | hr'
                        · exact hexN r' hr'
                        · rcases List.mem_singleton.mp hr' with rfl; exact ⟨nIJ, nCD⟩
                      case hfeM =>
                        intro r' hr'
                        rcases List.mem_append.mp hr' with hr' | hr'
                        · exact List.mem_append_left _ (hfe6 r' hr')
                        · exact List.mem_append_right _ hr'
                      case hexMM => exact fun r' hr' => List.mem_append_left _ (hex6 r' hr')
                      case hxIM =>
                        intro r' hr'
                        rcases List.mem_append.mp hr' with hr' | hr'
                        · exact hxI6 r' hr'
                        · rcases List.mem_singleton.mp hr' with rfl; exact nID
                      case htM => rw [htail, List.append_assoc]
                      case hmE =>
                        rfl
                      · rw [List.map_append] at hp
                        simp only [List.mem_cons, List.mem_append, List.map_cons, List.map_nil, List.not_mem_nil, or_false] at hp ⊢
                        rcases hp with h | h | h | h | h | h | h | h | h | h <;> simp only [h, true_or, or_true]
                      · rw [hstep, stepF, if_pos hone', addNew, if_neg hin]; exact hfr6.append (.cons (hi5q trivial) .nil)
          case done6 =>
            rintro m news oc2 vC2 h13 tk13 ⟨fr', ex', tail, pn, nF, oA, vA, rfl, dA6, hfr6, hfe6, hex6, hxI6, htail, hm⟩ hoc hap F18 N18
            clear F16 N17 apC
            replace F18 := frNamesE' _ F18 hm
            have hkl : (refs (fr.take k)).toArray.size = k := by rw [List.size_toArray, refs_len, List.length_take]; omega
            rw [hkl] at hfr6
            have hgg : (FF cls k).getD k [] = gc := by rw [List.getD_eq_getElem?_getD, hgk]; rfl
            have hFF : (((FF cls k).take k).foldl (stepF gc) (FF cls k)) = FF cls (k + 1) := by
              show _ = turnF (FF cls k) k
              unfold turnF
              rw [hgg]
            have hgm : gc ∈ all27 := hgood.sub gc (List.mem_of_getElem? hgk)
            have hgood6 := (good_steps (cls := (FF cls k).take k) hgood hgm fun c hc => hgood.sub c (List.mem_of_mem_take hc)).1
            rw [hFF] at hfr6 hgood6
            have hkr : refs (fr.take k) ++ [Value.ref r.1] = refs (fr'.take (k + 1)) := by
              rw [refs_snoc, htail, List.take_append_of_le_length (by omega), List.take_add_one, hrk]; rfl
            ((try ((with_reducible show wpAny _ _ (execs _ _) _ _ _); (fail_if_success (with_reducible show wpAny _ _ _ Qh _ _)); refine hideQ ?_; intro Qh hQh)); repeat' ((fail_if_success (with_reducible show wpAny _ _ (exec (PySem.Stmt.Assign _ (PySem.Expr.ListComp _ _ _ _) _) _) _ _ _)); (fail_if_success (with_reducible show wpAny _ _ (exec (PySem.Stmt.For _ _ _ _ _) _) _ _ _)); (fail_if_success (with_reducible show wpAny _ _ (eval (PySem.Expr.ListComp _ _ _ _) _) _ _ _)); (fail_if_success (with_reducible show wpAny _ _ (call (Value.builtin "isinstance") _ _) _ _ _)); (fail_if_success (with_reducible show wpAny _ _ (call (Value.builtin "list.append") _ _) _ _ _)); (fail_if_success (with_reducible show wpAny _ _ (compareOp CmpOp.NotIn (Value.ref _) (Value.ref _)) _ _ _)); (fail_if_success (with_reducible show wpAny _ _ (call (Value.ref _) _ _) _ _ _)); (first | walk1 | (dsimp only; walk1) | (with_reducible apply Hid.use; with_reducible assumption))))
            rename Fr _ _ _ _ => F19
            rename News _ _ _ _ => N19
            have N20 : News g L' _ ((L' + 1, oc2) :: (lK, W.listOf (refs (fr.take k)).toArray nK) :: ((lO, W.listOf os.toArray nO) :: (I, oI) :: (a.MP w i tl₀ ti₀ (refs (fr'.drop (k + 1))) pn ++ ((L' + 1 + 1, oA) :: (lF, W.listOf (refs fr').toArray nF) :: ex'.map rowObj)))) := N19.perm (fun p hp => by
              (try dsimp only [RestF] at hp ⊢); exact pm_7 hp)
            refine append_2 F19 N20 (by rw [refs_len, List.length_take]; omega) nKC (fun p hp => ?_) ?_
            · have hpN := hp
              simp only [List.mem_cons, List.mem_append] at hp
              rcases hp with rfl | rfl | hp | rfl | rfl | hp
              · exact nOK
              · exact nIK
              · exact mp_apart okK p hp
              · exact Ne.symm nKA
              · exact Ne.symm nKF
              · obtain ⟨r', hr', rfl⟩ := List.mem_map.mp hp
                exact News.twoPlaces N20 (.tail _ (.tail _ hpN)) (.tail _ (.head _)) tup_ne_list
            intro h14 F21 N21
            clear F19 N20
            rw [hkr] at N21
            ((try ((with_reducible show wpAny _ _ (execs _ _) _ _ _); (fail_if_success (with_reducible show wpAny _ _ _ Qh _ _)); refine hideQ ?_; intro Qh hQh)); repeat' ((fail_if_success (with_reducible show wpAny _ _ (exec (PySem.Stmt.Assign _ (PySem.Expr.ListComp _ _ _ _) _) _) _ _ _)); (fail_if_success (with_reducible show wpAny _ _ (exec (PySem.Stmt.For _ _ _ _ _) _) _ _ _)); (fail_if_success (with_reducible show wpAny _ _ (eval (PySem.Expr.ListComp _ _ _ _) _) _ _ _)); (fail_if_success (with_reducible show wpAny _ _ (call (Value.builtin "isinstance") _ _) _ _ _)); (fail_if_success (with_reducible show wpAny _ _ (call (Value.builtin "list.append") _ _) _ _ _)); (fail_if_success (with_reducible show wpAny _ _ (compareOp CmpOp.NotIn (Value.ref _) (Value.ref _)) _ _ _)); (fail_if_success (with_reducible show wpAny _ _ (call (Value.ref _) _ _) _ _ _)); (first | walk1 | (dsimp only; walk1) | (with_reducible apply Hid.use; with_reducible assumption))))
            (try (with_reducible apply Hid.use; with_reducible assumption)); (try dsimp only)
            have htl : k + 1 ≤ fr'.length := by rw [htail, List.length_append]; omega
            refine' Turn.next (a.MP w i tl₀ ti₀ (refs (fr'.drop (k + 1))) pn ++ RestF (L' + 1 + 1) (L' + 1) lF lK oA oc2 fr' nF (fr'.take (k + 1)) (nK + 1) ex') (by k_asm) N21 (fun p hp => ?_) (fun p hp => ?_) ⟨fr', ex', pn, nF, nK + 1, oA, oc2, vA, vC2, rfl, dA6, hoc, hfr6, hfe6, fun r' hr' => hex6 r' (hce r' hr'), htl, hgood6, ?hmF⟩
            case hmF =>
              rfl
            · (try dsimp only [RestF] at hp ⊢); exact pm_8 hp
            · simp only [List.mem_cons, List.mem_append, RestF] at hp
              rcases hp with hp | rfl | rfl | rfl | rfl | hp
              · exact mp_apart hIk p hp
              · exact Ne.symm nIA
              · exact Ne.symm nIC
              · exact Ne.symm nIF
              · exact Ne.symm nIK
              · obtain ⟨r', hr', rfl⟩ := List.mem_map.mp hp
                exact hxI6 r' hr'
      · -- none is left: the word behind the ports
        have hdn : fr.drop k = [] := List.drop_eq_nil_of_le (by omega)
        have htk : fr.take k = fr := List.take_of_length_le (by omega)
        have hkf : (FF cls k).length = k := by omega
        have hMP7 := hMP6
        rw [hdn, htk] at N7
        rw [hdn] at hMP7
        obtain ⟨l2, hLex, hA2⟩ := after_next hA hq
        clear N6
        ((try ((with_reducible show wpAny _ _ (execs _ _) _ _ _); (fail_if_success (with_reducible show wpAny _ _ _ Qh _ _)); refine hideQ ?_; intro Qh hQh)); repeat' ((fail_if_success (with_reducible show wpAny _ _ (exec (PySem.Stmt.Assign _ (PySem.Expr.ListComp _ _ _ _) _) _) _ _ _)); (fail_if_success (with_reducible show wpAny _ _ (exec (PySem.Stmt.For _ _ _ _ _) _) _ _ _)); (fail_if_success (with_reducible show wpAny _ _ (eval (PySem.Expr.ListComp _ _ _ _) _) _ _ _)); (fail_if_success (with_reducible show wpAny _ _ (call (Value.builtin "isinstance") _ _) _ _ _)); (fail_if_success (with_reducible show wpAny _ _ (call (Value.builtin "list.append") _ _) _ _ _)); (fail_if_success (with_reducible show wpAny _ _ (compareOp CmpOp.NotIn (Value.ref _) (Value.ref _)) _ _ _)); (fail_if_success (with_reducible show wpAny _ _ (call (Value.ref _) _ _) _ _ _)); (first | walk1 | (dsimp only; walk1) | (with_reducible apply Hid.use; with_reducible assumption))))
        rename Fr _ _ _ _ => F8
        rename News _ _ _ _ => N8
        replace N8 : News g L' _ ((I, oI) :: (a.MP w i tl₀ ti₀ [] pn ++ RestF (L' + 1 + 1) (L' + 1) lF lK oA oC fr nF fr nK ex)) := N8
        refine wpAny_call (get_call (rest := (I, oI) :: RestF (L' + 1 + 1) (L' + 1) lF lK oA oC fr nF fr nK ex) ok okp hR hLex (n := pn) (tl := tl₀) (ti := ti₀) rfl (Nat.le_of_ble_eq_true rfl) (Nat.le_of_ble_eq_true rfl) X T F8 (lay1' N8) (hrest oA oC nF nK fr fr ex _ _ pn hMP7 hex6) ?_)
        intro h9 tk9 tv9 tl5 ti5 j5 U F9 N9 hR5 hU
        replace N9 := unlay1' N9
        dsimp only [RestF] at N9
        clear F8 N8
        (try (with_reducible apply Hid.use; with_reducible assumption)); (try dsimp only)
        ((try ((with_reducible show wpAny _ _ (execs _ _) _ _ _); (fail_if_success (with_reducible show wpAny _ _ _ Qh _ _)); refine hideQ ?_; intro Qh hQh)); repeat' ((fail_if_success (with_reducible show wpAny _ _ (exec (PySem.Stmt.Assign _ (PySem.Expr.ListComp _ _ _ _) _) _) _ _ _)); (fail_if_success (with_reducible show wpAny _ _ (exec (PySem.Stmt.For _ _ _ _ _) _) _ _ _)); (fail_if_success (with_reducible show wpAny _ _ (eval (PySem.Expr.ListComp _ _ _ _) _) _ _ _)); (fail_if_success (with_reducible show wpAny _ _ (call (Value.builtin "isinstance") _ _) _ _ _)); (fail_if_success (with_reducible show wpAny _ _ (call (Value.builtin "list.append") _ _) _ _ _)); (fail_if_success (with_reducible show wpAny _ _ (compareOp CmpOp.NotIn (Value.ref _) (Value.ref _)) _ _ _)); (fail_if_success (with_reducible show wpAny _ _ (call (Value.ref _) _ _) _ _ _)); (first | walk1 | (dsimp only; walk1) | (with_reducible apply Hid.use; with_reducible assumption))))
        refine PySem.IsiPair.str_tuple ?_
        ((try ((with_reducible show wpAny _ _ (execs _ _) _ _ _); (fail_if_success (with_reducible show wpAny _ _ _ Qh _ _)); refine hideQ ?_; intro Qh hQh)); repeat' ((fail_if_success (with_reducible show wpAny _ _ (exec (PySem.Stmt.Assign _ (PySem.Expr.ListComp _ _ _ _) _) _) _ _ _)); (fail_if_success (with_reducible show wpAny _ _ (exec (PySem.Stmt.For _ _ _ _ _) _) _ _ _)); (fail_if_success (with_reducible show wpAny _ _ (eval (PySem.Expr.ListComp _ _ _ _) _) _ _ _)); (fail_if_success (with_reducible show wpAny _ _ (call (Value.builtin "isinstance") _ _) _ _ _)); (fail_if_success (with_reducible show wpAny _ _ (call (Value.builtin "list.append") _ _) _ _ _)); (fail_if_success (with_reducible show wpAny _ _ (compareOp CmpOp.NotIn (Value.ref _) (Value.ref _)) _ _ _)); (fail_if_success (with_reducible show wpAny _ _ (call (Value.ref _) _ _) _ _ _)); (first | walk1 | (dsimp only; walk1) | (with_reducible apply Hid.use; with_reducible assumption))))
        repeat (first | dsimp only [Turn, TurnC] | (with_reducible apply Hid.use; with_reducible assumption))
        try k_unfold
        (try (with_reducible apply Hid.use; with_reducible assumption)); (try dsimp only)
        rename Fr _ _ _ _ => F10
        rename News _ _ _ _ => N10
        exact h _ lF lK U tv9 fr k nF nK pn j5 tl5 ti5 l2 _ _ F10.keep hR5 hA2 hU hfr hkf hgood (fun p hp => ⟨(N10 p (found_end hfe hce hp)).1, (N10 p (found_end hfe hce hp)).2.2⟩)

end
/-! Plain -/
section
/-- the clause is true in that way -/
noncomputable def satC (c : List Int) (way : Int) : Bool := Builtin.bitAnd (maskOf c) way != 0
/-- each literal of d is in c -/
noncomputable def subC (d c : List Int) : Bool := Builtin.bitAnd (maskOf c) (maskOf d) == maskOf d
theorem all_masks : allOf = all27.map maskOf := by decide +kernel
theorem res_sound : ∀ g ∈ all27, ∀ c ∈ all27, (againstOf g c).length = 1 → ∀ y ∈ waysOf, satC g y = true → satC c y = true → satC (freshOf g c) y = true := by decide +kernel
theorem sub_sound : ∀ d ∈ all27, ∀ c ∈ all27, subC d c = true → ∀ y ∈ waysOf, satC d y = true → satC c y = true := by decide +kernel
theorem res_sym : ∀ g ∈ all27, ∀ c ∈ all27, (againstOf g c).length = 1 → (againstOf c g).length = 1 ∧ freshOf g c = freshOf c g := by decide +kernel
theorem res_irr : ∀ g ∈ all27, (againstOf g g).length ≠ 1 := by decide +kernel
theorem full_way : ∀ c ∈ all27, c.length = 3 → ∃ y ∈ waysOf, satC c y = false ∧ ∀ d ∈ all27, satC d y = false → subC d c = true := by decide +kernel
/-- the clause with one name more, told both ways -/
noncomputable def extC (c : List Int) : List Int × List Int :=
  if 253 ∉ c ∧ 256 ∉ c then (PySem.W.sortI (253 :: c), PySem.W.sortI (256 :: c))
  else if 254 ∉ c ∧ 257 ∉ c then (PySem.W.sortI (254 :: c), PySem.W.sortI (257 :: c))
  else (PySem.W.sortI (255 :: c), PySem.W.sortI (258 :: c))
theorem ext_in : ∀ c ∈ all27, c.length ≠ 3 → (extC c).1 ∈ all27 ∧ (extC c).2 ∈ all27 ∧ (extC c).1.length = c.length + 1 ∧ (extC c).2.length = c.length + 1 ∧ subC c (extC c).1 = true ∧ subC c (extC c).2 = true := by decide +kernel
theorem ext_res : ∀ c ∈ all27, c.length ≠ 3 → ∀ d ∈ all27, subC d (extC c).1 = true → ∀ e ∈ all27, subC e (extC c).2 = true → subC d c = true ∨ subC e c = true ∨ ((againstOf d e).length = 1 ∧ subC (freshOf d e) c = true) := by decide +kernel
/-- closed under resolution -/
noncomputable def ClosedF (fs : List (List Int)) : Prop := ∀ g ∈ fs, ∀ c ∈ fs, (againstOf g c).length = 1 → freshOf g c ∈ fs
theorem lee {cls fs : List (List Int)} (hs : ∀ c ∈ cls, c ∈ fs) (hf : ∀ c ∈ fs, c ∈ all27) (hc : ClosedF fs) : ∀ (n : Nat) (c : List Int), c ∈ all27 → c.length + n = 3 → (∀ y ∈ waysOf, (∀ d ∈ cls, satC d y = true) → satC c y = true) → ∃ d ∈ fs, subC d c = true := by
  intro n
  induction n with
  | zero =>
    intro c hc27 hl him
    obtain ⟨y, hy, h0, h1⟩ := full_way c hc27 hl
    have : ¬ ∀ d ∈ cls, satC d y = true := fun h => by rw [him y hy h] at h0; cases h0
    obtain ⟨d, hd, hn⟩ : ∃ d ∈ cls, ¬ satC d y = true := by
      apply Classical.byContradiction
      intro hx
      exact this fun d hd => Classical.byContradiction fun hn => hx ⟨d, hd, hn⟩
    exact ⟨d, hs d hd, h1 d (hf d (hs d hd)) (by simpa using hn)⟩
  | succ n ih =>
    intro c hc27 hl him
    obtain ⟨e1, e2, l1, l2, s1, s2⟩ := ext_in c hc27 (by omega)
    obtain ⟨d, hd, hd2⟩ := ih _ e1 (by omega) fun y hy h => sub_sound c hc27 _ e1 s1 y hy (him y hy h)
    obtain ⟨e, he, he2⟩ := ih _ e2 (by omega) fun y hy h => sub_sound c hc27 _ e2 s2 y hy (him y hy h)
    rcases ext_res c hc27 (by omega) d (hf d hd) hd2 e (hf e he) he2 with h | h | ⟨h1, h2⟩
    · exact ⟨d, hd, h⟩
    · exact ⟨e, he, h⟩
    · exact ⟨_, hc d hd e he h1, h2⟩
theorem len27 : ∀ c ∈ all27, c.length ≤ 3 := by decide +kernel
/-! what FF comes to -/
theorem mem_addNew {fs : List (List Int)} {c x : List Int} : x ∈ addNew fs c ↔ x ∈ fs ∨ x = c := by
  unfold addNew
  split
  · exact ⟨.inl, fun h => h.elim id fun e => by rw [e]; assumption⟩
  · rw [List.mem_append, List.mem_singleton]
theorem mem_dd : ∀ {cls fs : List (List Int)} {x : List Int}, x ∈ cls.foldl addNew fs ↔ x ∈ fs ∨ x ∈ cls
  | [], fs, x => by simp
  | c :: r, fs, x => by rw [List.foldl_cons, mem_dd, mem_addNew, List.mem_cons, or_assoc]
theorem mem_steps {g : List Int} : ∀ {cls fs : List (List Int)} {x : List Int}, x ∈ cls.foldl (stepF g) fs ↔ x ∈ fs ∨ ∃ c ∈ cls, (againstOf g c).length = 1 ∧ x = freshOf g c
  | [], fs, x => by simp
  | c :: r, fs, x => by
    have e : x ∈ stepF g fs c ↔ x ∈ fs ∨ ((againstOf g c).length = 1 ∧ x = freshOf g c) := by
      unfold stepF
      split
      · rename_i h; rw [mem_addNew]; simp [h]
      · rename_i h; simp [h]
    rw [List.foldl_cons, mem_steps, e]
    constructor
    · rintro ((h | ⟨h1, h2⟩) | ⟨d, hd, h⟩)
      · exact .inl h
      · exact .inr ⟨c, .head _, h1, h2⟩
      · exact .inr ⟨d, .tail _ hd, h⟩
    · rintro (h | ⟨d, hd, h⟩)
      · exact .inl (.inl h)
      · rcases List.mem_cons.mp hd with rfl | hd
        · exact .inl (.inr h)
        · exact .inr ⟨d, hd, h⟩
theorem steps_pre {g : List Int} : ∀ {cls fs : List (List Int)}, ∃ r, cls.foldl (stepF g) fs = fs ++ r
  | [], fs => ⟨[], (List.append_nil _).symm⟩
  | c :: cls, fs => by
    obtain ⟨r1, e1⟩ := step_pre (fs := fs) (g := g) (c := c)
    obtain ⟨r2, e2⟩ := steps_pre (cls := cls) (fs := stepF g fs c) (g := g)
    exact ⟨r1 ++ r2, by rw [List.foldl_cons, e2, e1, List.append_assoc]⟩
theorem FF_pre {cls : List (List Int)} : ∀ {k d : Nat}, ∃ r, FF cls (k + d) = FF cls k ++ r
  | k, 0 => ⟨[], (List.append_nil _).symm⟩
  | k, d + 1 => by
    obtain ⟨r1, e1⟩ := FF_pre (cls := cls) (k := k) (d := d)
    obtain ⟨r2, e2⟩ := steps_pre (g := (FF cls (k + d)).getD (k + d) []) (cls := (FF cls (k + d)).take (k + d)) (fs := FF cls (k + d))
    exact ⟨r1 ++ r2, by
      show turnF (FF cls (k + d)) (k + d) = _
      unfold turnF
      rw [e2, e1, List.append_assoc]⟩
theorem FF_src {cls : List (List Int)} : ∀ {k : Nat} {c : List Int}, c ∈ cls → c ∈ FF cls k
  | 0, c, h => mem_dd.mpr (.inr h)
  | k + 1, c, h => mem_steps.mpr (.inl (FF_src (k := k) h))
theorem FF_sound {cls : List (List Int)} (h27 : ∀ c ∈ cls, c ∈ all27) : ∀ {k : Nat}, k ≤ (FF cls k).length → (∀ c ∈ FF cls k, c ∈ all27) → ∀ {y : Int}, y ∈ waysOf → (∀ d ∈ cls, satC d y = true) → ∀ c ∈ FF cls k, satC c y = true := by
  intro k
  induction k with
  | zero =>
    intro _ _ y hy h c hc
    rcases mem_dd.mp hc with hc | hc
    · cases hc
    · exact h c hc
  | succ k ih =>
    intro hk hin y hy h c hc
    have hsub : ∀ c ∈ FF cls k, c ∈ all27 := fun c hc => hin c (mem_steps.mpr (.inl hc))
    rcases Nat.lt_or_ge k (FF cls k).length with hlt | hge
    · have ih' := ih (Nat.le_of_lt hlt) hsub hy h
      rcases mem_steps.mp hc with hc | ⟨d, hd, h1, rfl⟩
      · exact ih' c hc
      · have hg : (FF cls k).getD k [] ∈ FF cls k := by
          rw [List.getD_eq_getElem?_getD, List.getElem?_eq_getElem hlt]; exact List.getElem_mem hlt
        have hd' := List.mem_of_mem_take hd
        exact res_sound _ (hsub _ hg) _ (hsub _ hd') h1 y hy (ih' _ hg) (ih' _ hd')
    · exfalso
      have e : (FF cls k).getD k [] = [] := by
        rw [List.getD_eq_getElem?_getD, List.getElem?_eq_none hge]; rfl
      have e2 : FF cls (k + 1) = FF cls k := by
        show turnF (FF cls k) k = _
        unfold turnF
        rw [e]
        have : ∀ l : List (List Int), ∀ fs, l.foldl (stepF []) fs = fs := by
          intro l
          induction l with
          | nil => intro fs; rfl
          | cons c r ih2 => intro fs; rw [List.foldl_cons]; exact ih2 fs
        exact this _ _
      rw [e2] at hk
      omega
theorem FF_closed {cls : List (List Int)} {k : Nat} (hk : (FF cls k).length = k) (hin : ∀ c ∈ FF cls k, c ∈ all27) : ClosedF (FF cls k) := by
  have key : ∀ i j, i < j → j < k → ∀ g c, (FF cls k)[j]? = some g → (FF cls k)[i]? = some c → (againstOf g c).length = 1 → freshOf g c ∈ FF cls k := by
    intro i j hij hjk g c hg hc h1
    obtain ⟨r1, e1⟩ := FF_pre (cls := cls) (k := j) (d := k - j)
    rw [show j + (k - j) = k from by omega] at e1
    obtain ⟨r2, e2⟩ := FF_pre (cls := cls) (k := j + 1) (d := k - (j + 1))
    rw [show j + 1 + (k - (j + 1)) = k from by omega] at e2
    by_cases hlt : j < (FF cls j).length
    · have hg' : (FF cls j).getD j [] = g := by
        rw [e1, List.getElem?_append_left hlt] at hg
        rw [List.getD_eq_getElem?_getD, hg]; rfl
      have hc' : c ∈ (FF cls j).take j := by
        rw [e1, List.getElem?_append_left (by omega)] at hc
        refine List.mem_of_getElem? (i := i) ?_
        rw [List.getElem?_take_of_lt hij]; exact hc
      rw [e2]
      refine List.mem_append_left _ (mem_steps.mpr (.inr ⟨c, hc', ?_, ?_⟩))
      · rw [hg']; exact h1
      · rw [hg']
    · exfalso
      -- the list no longer grows
      have stop : ∀ d, (FF cls (j + d)).length = (FF cls j).length := by
        intro d
        induction d with
        | zero => rfl
        | succ d ih =>
          have e : (FF cls (j + d)).getD (j + d) [] = [] := by
            rw [List.getD_eq_getElem?_getD, List.getElem?_eq_none (by omega)]; rfl
          have e2 : FF cls (j + (d + 1)) = FF cls (j + d) := by
            show turnF (FF cls (j + d)) (j + d) = _
            unfold turnF
            rw [e]
            have : ∀ l : List (List Int), ∀ fs, l.foldl (stepF []) fs = fs := by
              intro l
              induction l with
              | nil => intro fs; rfl
              | cons c r ih2 => intro fs; rw [List.foldl_cons]; exact ih2 fs
            exact this _ _
          rw [e2, ih]
      have := stop (k - j)
      rw [show j + (k - j) = k from by omega] at this
      omega
  intro g hg c hc h1
  obtain ⟨j, hj⟩ := List.mem_iff_getElem?.mp hg
  obtain ⟨i, hi⟩ := List.mem_iff_getElem?.mp hc
  have hjk : j < k := by have := (List.getElem?_eq_some_iff.mp hj).1; omega
  have hik : i < k := by have := (List.getElem?_eq_some_iff.mp hi).1; omega
  rcases Nat.lt_trichotomy i j with h | h | h
  · exact key i j h hjk g c hj hi h1
  · subst h
    rw [hj] at hi; cases hi
    exact absurd h1 (res_irr g (hin g hg))
  · obtain ⟨h2, h3⟩ := res_sym g (hin g hg) c (hin c hc) h1
    rw [h3]
    exact key j i h hik c g hi hj h2
theorem left_mem {ms : List Int} {y : Int} : y ∈ leftOf ms ↔ y ∈ waysOf ∧ ∀ m ∈ ms, Builtin.bitAnd m y ≠ 0 := by
  unfold leftOf leftP
  rw [List.mem_filter]
  refine and_congr_right fun _ => ?_
  rw [beq_iff_eq, List.filter_eq_nil_iff]
  simp only [beq_iff_eq]
theorem plain_law {cls : List (List Int)} {k : Nat} (h27 : ∀ c ∈ cls, c ∈ all27) (hk : (FF cls k).length = k) (hin : ∀ c ∈ FF cls k, c ∈ all27) :
    followOf (cls.map maskOf) = haveOf ((FF cls k).map maskOf) := by
  unfold followOf haveOf
  refine List.filter_congr fun n hn => ?_
  rw [all_masks] at hn
  obtain ⟨c, hc, rfl⟩ := List.mem_map.mp hn
  rw [Bool.eq_iff_iff]
  have h1 : followP (leftOf (cls.map maskOf)) (maskOf c) = true ↔ ∀ y ∈ waysOf, (∀ d ∈ cls, satC d y = true) → satC c y = true := by
    unfold followP
    rw [beq_iff_eq, List.filter_eq_nil_iff]
    constructor
    · intro h y hy hs
      have := h y (left_mem.mpr ⟨hy, fun m hm => by
        obtain ⟨d, hd, rfl⟩ := List.mem_map.mp hm
        have := hs d hd
        unfold satC at this
        simpa using this⟩)
      unfold satC
      simpa using this
    · intro h y hy
      obtain ⟨h1, h2⟩ := left_mem.mp hy
      have := h y h1 fun d hd => by
        have := h2 _ (List.mem_map.mpr ⟨d, hd, rfl⟩)
        unfold satC
        simpa using this
      unfold satC at this
      simpa using this
  have h2 : haveP ((FF cls k).map maskOf) (maskOf c) = true ↔ ∃ d ∈ FF cls k, subC d c = true := by
    unfold haveP
    rw [bne_iff_ne, ne_eq, List.filter_eq_nil_iff]
    constructor
    · intro h
      apply Classical.byContradiction
      intro hx
      refine h fun m hm => ?_
      obtain ⟨d, hd, rfl⟩ := List.mem_map.mp hm
      exact fun e => hx ⟨d, hd, e⟩
    · rintro ⟨d, hd, e⟩ h
      exact h _ (List.mem_map.mpr ⟨d, hd, rfl⟩) e
  rw [h1, h2]
  have hl := len27 c hc
  constructor
  · intro h
    exact lee (fun c hc => FF_src hc) hin (FF_closed hk hin) (3 - c.length) c hc (by omega) h
  · rintro ⟨d, hd, e⟩ y hy hs
    exact sub_sound d (hin d hd) c hc e y hy (FF_sound h27 (by omega) hin hy hs d hd)
/-! the clauses drawn, and cut -/
noncomputable def litM (m b : Int) (i : Nat) : Int := 253 + (m + (i : Int)).fmod 3 + 3 * b
theorem lits_in : ∀ m ∈ ([0, 1, 2] : List Int), ∀ b0 ∈ ([0, 1] : List Int), ∀ b1 ∈ ([0, 1] : List Int), ∀ b2 ∈ ([0, 1] : List Int), ∀ n ∈ ([0, 1, 2, 3] : List Nat),
    PySem.W.sortI ([litM m b0 0, litM m b1 1, litM m b2 2].take n) ∈ all27 ∧ maskOf (PySem.W.sortI ([litM m b0 0, litM m b1 1, litM m b2 2].take n)) = maskOf ([litM m b0 0, litM m b1 1, litM m b2 2].take n) := by decide +kernel
theorem clause_form (t : Int) {n : Nat} (hn : n ≤ 3) : PySem.W.sortI (clauseOf t n) ∈ all27 ∧ maskOf (PySem.W.sortI (clauseOf t n)) = maskOf (clauseOf t n) := by
  have hm : t.fmod 3 ∈ ([0, 1, 2] : List Int) := by
    have h3 : 0 ≤ t.fmod 3 ∧ t.fmod 3 < 3 := ⟨Int.fmod_nonneg_of_pos _ (by decide), Int.fmod_lt_of_pos _ (by decide)⟩
    have : t.fmod 3 = 0 ∨ t.fmod 3 = 1 ∨ t.fmod 3 = 2 := by omega
    rcases this with h | h | h <;> rw [h] <;> decide
  have hb : ∀ x : Int, x.fmod 2 ∈ ([0, 1] : List Int) := by
    intro x
    have h3 : 0 ≤ x.fmod 2 ∧ x.fmod 2 < 2 := ⟨Int.fmod_nonneg_of_pos _ (by decide), Int.fmod_lt_of_pos _ (by decide)⟩
    have : x.fmod 2 = 0 ∨ x.fmod 2 = 1 := by omega
    rcases this with h | h <;> rw [h] <;> decide
  have hl : ∀ i : Nat, litOf t i = litM (t.fmod 3) (((t.fdiv 3).fdiv (2 ^ i)).fmod 2) i := by
    intro i
    unfold litOf litM
    have e : (t + (i : Int)).fmod 3 = (t.fmod 3 + (i : Int)).fmod 3 := by
      simp only [Int.fmod_eq_emod_of_nonneg _ (show (0 : Int) ≤ 3 by decide)]
      omega
    rw [e]
  have hc : clauseOf t n = [litM (t.fmod 3) (((t.fdiv 3).fdiv (2 ^ 0)).fmod 2) 0, litM (t.fmod 3) (((t.fdiv 3).fdiv (2 ^ 1)).fmod 2) 1, litM (t.fmod 3) (((t.fdiv 3).fdiv (2 ^ 2)).fmod 2) 2].take n := by
    have : n = 0 ∨ n = 1 ∨ n = 2 ∨ n = 3 := by omega
    unfold clauseOf
    rcases this with rfl | rfl | rfl | rfl
    · rfl
    · rw [← hl]; rfl
    · rw [← hl, ← hl]; rfl
    · rw [← hl, ← hl, ← hl]; rfl
  rw [hc]
  refine lits_in _ hm _ (hb _) _ (hb _) _ (hb _) n ?_
  have : n = 0 ∨ n = 1 ∨ n = 2 ∨ n = 3 := by omega
  rcases this with rfl | rfl | rfl | rfl <;> decide
theorem take_flat : ∀ (ls : List (List Int)) (sz : List Int), ls.length = sz.length → (∀ (k : Nat) l, ls[k]? = some l → sz[k]? = some (l.length : Int)) → ∀ k, k < sz.length →
    ((sz.take k).sum).toNat + (ls.getD k []).length ≤ ls.flatten.length ∧ 0 ≤ (sz.take k).sum ∧ sz.getD k 0 = ((ls.getD k []).length : Int) ∧ (ls.flatten.drop ((sz.take k).sum).toNat).take (ls.getD k []).length = ls.getD k []
  | [], [], _, _, k, hk => absurd hk (Nat.not_lt_zero _)
  | l :: ls, z :: sz, hl, h, 0, hk => by
    have h0 := h 0 l rfl
    simp only [List.getElem?_cons_zero, Option.some.injEq] at h0
    subst h0
    refine ⟨?_, Int.le_refl _, rfl, ?_⟩
    · simp
    · simp
  | l :: ls, z :: sz, hl, h, k + 1, hk => by
    have h0 := h 0 l rfl
    simp only [List.getElem?_cons_zero, Option.some.injEq] at h0
    subst h0
    obtain ⟨i1, i2, i3, i4⟩ := take_flat ls sz (by simpa using hl) (fun k l e => by simpa using h (k + 1) l (by simpa using e)) k (by simpa using hk)
    have e1 : ((↑l.length :: sz).take (k + 1)).sum = (l.length : Int) + (sz.take k).sum := by rw [List.take_succ_cons, List.sum_cons]
    have e2 : ((l.length : Int) + (sz.take k).sum).toNat = l.length + ((sz.take k).sum).toNat := by omega
    rw [e1, e2, List.getD_cons_succ, List.getD_cons_succ, List.flatten_cons]
    refine ⟨by rw [List.length_append]; omega, by omega, i3, ?_⟩
    rw [← List.drop_drop, List.drop_left]
    exact i4
  | [], _ :: _, hl, _, _, _ => by simp at hl
  | _ :: _, [], hl, _, _, _ => by simp at hl
/-- the clauses, as the loop cuts them -/
noncomputable def clsOf (ts sz : List Int) : List (List Int) := (drawnOf ts sz).map PySem.W.sortI
theorem cut_is {ts sz : List Int} (hsz : ∀ x ∈ sz, 1 ≤ x ∧ x ≤ 3) {k : Nat} (hk : k < sz.length) : (clsOf ts sz)[k]? = some (cutAt (drawnOf ts sz).flatten sz k) := by
  have hget : (drawnOf ts sz).getD k [] = clauseOf (ts.getD k 0) (sz.getD k 0).toNat := by
    rw [List.getD_eq_getElem?_getD, drawn_get hk]; rfl
  obtain ⟨i1, i2, i3, i4⟩ := take_flat (drawnOf ts sz) sz drawn_len (fun k l e => by
    have hk2 : k < sz.length := by have := (List.getElem?_eq_some_iff.mp e).1; rwa [drawn_len] at this
    rw [drawn_get hk2] at e
    have := hsz _ (List.getElem_mem hk2)
    rw [← Option.some.inj e, clause_len, List.getElem?_eq_getElem hk2, List.getD_eq_getElem?_getD, List.getElem?_eq_getElem hk2]
    show some sz[k] = some ((sz[k].toNat : Nat) : Int)
    rw [Int.toNat_of_nonneg (by omega)]) k hk
  unfold clsOf cutAt
  rw [List.getElem?_map, drawn_get hk, ← hget]
  have e : min ((List.take k sz).sum + sz.getD k 0).toNat (drawnOf ts sz).flatten.length - ((List.take k sz).sum).toNat = ((drawnOf ts sz).getD k []).length := by
    rw [i3]; omega
  rw [e, i4]
  rfl
theorem cls_in {ts sz : List Int} (hsz : ∀ x ∈ sz, 1 ≤ x ∧ x ≤ 3) : ∀ c ∈ clsOf ts sz, c ∈ all27 := by
  intro c hc
  obtain ⟨d, hd, rfl⟩ := List.mem_map.mp hc
  obtain ⟨k, hk, rfl⟩ := List.mem_map.mp hd
  have hk' : k < sz.length := List.mem_range.mp hk
  have := hsz _ (List.getElem_mem hk')
  refine (clause_form _ ?_).1
  rw [List.getD_eq_getElem?_getD, List.getElem?_eq_getElem hk']
  show sz[k].toNat ≤ 3
  omega
theorem cls_masks {ts sz : List Int} (hsz : ∀ x ∈ sz, 1 ≤ x ∧ x ≤ 3) : (clsOf ts sz).map maskOf = (drawnOf ts sz).map maskOf := by
  unfold clsOf
  rw [List.map_map]
  refine List.map_congr_left fun d hd => ?_
  obtain ⟨k, hk, rfl⟩ := List.mem_map.mp hd
  have hk' : k < sz.length := List.mem_range.mp hk
  have := hsz _ (List.getElem_mem hk')
  refine (clause_form _ ?_).2
  rw [List.getD_eq_getElem?_getD, List.getElem?_eq_getElem hk']
  show sz[k].toNat ≤ 3
  omega
theorem law_plain {ts sz : List Int} {k : Nat} (hsz : ∀ x ∈ sz, 1 ≤ x ∧ x ≤ 3) (hk : (FF (clsOf ts sz) k).length = k) (hg : Good (FF (clsOf ts sz) k)) :
    followOf ((drawnOf ts sz).map maskOf) = haveOf ((FF (clsOf ts sz) k).map maskOf) := by
  rw [← cls_masks hsz]
  exact plain_law (cls_in hsz) hk hg.sub
theorem told_sizes : ∀ rs ∈ rulers, rs.head? ≠ some 0 → told 4 none rs = sizesOf rs := by decide +kernel

end
/-! B21 -/
section
section
variable {prog : Program} {w : World} {A : Around} {s : Shared} {p : Program} {loose : List Str} {mg mb : Str → Option Value} {g : Heap} {L : Addr} {m : Str → Option Value}
/-- the lexer, made on the stream -/
theorem mk_lex {a : Lx} {h' : Heap} {x dx pb : Addr} {t1 t2 t3 t4 tl tw ti : Tok} {rest : List (Addr × Obj)} (sok : a.SOk w)
    (N : News g L h' ((pb, W.listOf #[] 0) :: (x, W.instObj 103 dx) :: (dx, W.dictOf [ent w "lineno" t1 (.int 1 tl), ent w "instream" t2 (.ref a.y), ent w "whitespace" t3 (.str (Str.ofString "\n\t\r ") tw), ent w "pushback" t4 (.ref pb)] 4) :: (a.S w ti ++ rest)))
    (l1 : ∀ p ∈ a.S w ti, @LT.lt Nat _ p.1 dx) (l2 : @LT.lt Nat _ dx x) (np : ∀ p ∈ a.S w ti, @Ne Nat p.1 pb) (n1 : @Ne Nat x pb) (n2 : @Ne Nat dx pb) :
    ∃ a' : Lx, a'.Ok w ∧ a'.pb ∉ (a'.M w 0 0 0).map (·.1) ∧ a'.tx = a.tx ∧ a'.x = x ∧ News g L h' (a'.MP w 0 tl ti [] 0 ++ rest) ∧ ∀ b ∈ (a'.MP w 0 0 0 [] 0).map (·.1), b = pb ∨ b = x ∨ b = dx ∨ b ∈ (a.S w ti).map (·.1) := by
  have L : ∀ b ∈ (a.S w ti).map (·.1), @LT.lt Nat _ b dx ∧ @Ne Nat b pb := fun b hb => by
    obtain ⟨q, hq, rfl⟩ := List.mem_map.mp hb
    exact ⟨l1 q hq, np q hq⟩
  have m1 := L a.sp (.head _)
  have m2 := L a.y (.tail _ (.head _))
  have m3 := L a.dy (.tail _ (.tail _ (.head _)))
  have m4 := L a.f (.tail _ (.tail _ (.tail _ (.head _))))
  have m5 := L a.c (.tail _ (.tail _ (.tail _ (.tail _ (.head _)))))
  have m6 := L a.cs (.tail _ (.tail _ (.tail _ (.tail _ (.tail _ (.head _))))))
  have m7 := L a.ct (.tail _ (.tail _ (.tail _ (.tail _ (.tail _ (.tail _ (.head _)))))))
  refine ⟨{ a with x := x, dx := dx, pb := pb, t1 := t1, t2 := t2, t3 := t3, t4 := t4, tw := tw }, ⟨sok.pick, sok.fo, sok.oc, sok.oT, sok.oS, sok.len, Nat.ne_of_gt m1.1, Nat.ne_of_lt l2, Nat.ne_of_gt m2.1, Nat.ne_of_gt m3.1, Nat.ne_of_gt m4.1, Nat.ne_of_gt m5.1, Nat.ne_of_gt m6.1, Nat.ne_of_gt m7.1,
    Nat.ne_of_lt (Nat.lt_trans m1.1 l2), sok.s3, sok.s4, sok.s5, sok.s6, sok.s7, sok.s8⟩, ?_, rfl, rfl, ?_, ?_⟩
  · intro hm
    simp only [Lx.M, List.map_cons, List.map_nil, List.mem_cons, List.not_mem_nil, or_false] at hm
    rcases hm with e | e | e | e | e | e | e | e | e
    · exact n2 e.symm
    · exact m1.2 e.symm
    · exact n1 e.symm
    · exact m2.2 e.symm
    · exact m3.2 e.symm
    · exact m4.2 e.symm
    · exact m5.2 e.symm
    · exact m6.2 e.symm
    · exact m7.2 e.symm
  · refine N.perm fun p hp => ?_
    have e0 : lineAt a.tx 0 = 1 := by simp [lineAt]
    simp only [Lx.MP, Lx.M, Lx.S, e0, List.cons_append, List.nil_append, List.append_assoc, List.mem_cons, List.mem_append, List.not_mem_nil, or_false] at hp ⊢
    rcases hp with h | h | h | h | h | h | h | h | h | h | h
    · exact .inr (.inr (.inl h))
    · exact .inr (.inr (.inr (.inl h)))
    · exact .inr (.inl h)
    all_goals first | (exact .inl h) | (simp only [h, true_or, or_true])
  · intro b hb
    simp only [Lx.MP, Lx.M, List.cons_append, List.nil_append, List.map_cons, List.map_nil, List.mem_cons, List.not_mem_nil, or_false] at hb
    have z : ∀ c, c = a.sp ∨ c = a.y ∨ c = a.dy ∨ c = a.f ∨ c = a.c ∨ c = a.cs ∨ c = a.ct → c ∈ (a.S w ti).map (·.1) := fun c hc => by
      simp only [Lx.S, List.map_cons, List.map_nil, List.mem_cons, List.not_mem_nil, or_false]; exact hc
    rcases hb with h | h | h | h | h | h | h | h | h | h
    · exact .inr (.inr (.inl h))
    · exact .inr (.inr (.inr (z _ (.inl h))))
    · exact .inr (.inl h)
    · exact .inr (.inr (.inr (z _ (.inr (.inl h)))))
    · exact .inr (.inr (.inr (z _ (.inr (.inr (.inl h))))))
    · exact .inr (.inr (.inr (z _ (.inr (.inr (.inr (.inl h)))))))
    · exact .inr (.inr (.inr (z _ (.inr (.inr (.inr (.inr (.inl h))))))))
    · exact .inr (.inr (.inr (z _ (.inr (.inr (.inr (.inr (.inr (.inl h)))))))))
    · exact .inr (.inr (.inr (z _ (.inr (.inr (.inr (.inr (.inr (.inr h)))))))))
    · exact .inl h
/-- the caller's frame and ledger behind a call that changed what M names, with all that it tells of the new heap -/
theorem back2 {h h' : Heap} {news M all rest : List (Addr × Obj)} (F : Fr g L h m) (N : News g L h news) (hM : ∀ p ∈ M, p ∈ news) (st : (hidden h M).StaysIn h') (ha : ∀ p ∈ all, h'.get? p.1 = some p.2 ∧ (hidden h M).get? p.1 = none)
    (hr : ∀ p ∈ rest, p ∈ news ∧ p.1 ∉ M.map (·.1)) : Fr g L h' m ∧ News g L h' (all ++ rest) := by
  have key : ∀ b ∈ M.map (·.1), b ≠ L ∧ g.get? b = none := fun b hb => by
    obtain ⟨q, hq, rfl⟩ := List.mem_map.mp hb
    exact (N q (hM q hq)).2
  have keep : ∀ b o, g.get? b = some o → (hidden h M).get? b = some o := fun b o e => hidden_get (F.keep b o e) fun hm => by rw [(key b hm).2] at e; cases e
  have hL : ∀ o, h.get? L = some o → (hidden h M).get? L = some o := fun o e => hidden_get e fun hm => (key L hm).1 rfl
  refine ⟨⟨F.ns.at' fun o e => st _ _ (hL o e), fun b o e => st b o (keep b o e), F.above⟩, fun q hq => ?_⟩
  rcases List.mem_append.mp hq with hq | hq
  · obtain ⟨z1, z2⟩ := ha q hq
    refine ⟨z1, fun e => ?_, ?_⟩
    · obtain ⟨o, _, _, eo, _⟩ := F.ns
      rw [e, hL o eo] at z2; cases z2
    · cases e : g.get? q.1 with
      | none => rfl
      | some o => rw [keep _ _ e] at z2; cases z2
  · obtain ⟨z1, z2⟩ := hr q hq
    exact ⟨st _ _ (hidden_get (N q z1).1 z2), (N q z1).2⟩
theorem hidden_nil {h : Heap} {b : Addr} {o : Obj} (e : (hidden h []).get? b = some o) : h.get? b = some o := by
  simpa [hidden, hideAll] using e
/-- and behind a call that only made some -/
theorem more {h h' : Heap} {news E : List (Addr × Obj)} (F : Fr g L h m) (N : News g L h news) (k : h.StaysIn h') (hE : ∀ p ∈ E, h'.get? p.1 = some p.2 ∧ h.get? p.1 = none) : Fr g L h' m ∧ News g L h' (E ++ news) := by
  refine back2 (M := []) F N (fun p hp => nomatch hp) (fun b o e => k b o (hidden_nil e)) (fun q hq => ⟨(hE q hq).1, ?_⟩) fun q hq => ⟨hq, List.not_mem_nil⟩
  cases e : (hidden h []).get? q.1 with
  | none => rfl
  | some o => have z := hidden_nil e; rw [(hE q hq).2] at z; cases z
theorem law_ledger {h : Heap} {x1 x2 x3 : Addr × Obj} {lw D lt ls lr cS cT tb : Addr × Obj} {Cs : List (Addr × Obj)} (N : News g L h (x1 :: x2 :: x3 :: lw :: D :: (Cs ++ ([ls, lr, lt] ++ [cS, cT, tb])))) : News g L h (tb :: lr :: ls :: cS :: cT :: lw :: D :: Cs) :=
  N.perm fun p hp => by
    simp only [List.mem_append, List.mem_cons, List.not_mem_nil, or_false] at hp ⊢
    rcases hp with h | h | h | h | h | h | h | h <;> simp only [h, true_or, or_true]
end
theorem mem1 {α : Type} {a p : α} {l : List α} (h : p ∈ [a]) : p ∈ a :: l := by rcases List.mem_singleton.mp h with rfl; exact .head _
theorem hid_none {h : Heap} {M : List (Addr × Obj)} {b : Addr} (e : h.get? b = none) : (hidden h M).get? b = none := by
  cases q : (hidden h M).get? b with
  | none => rfl
  | some o => rw [of_hideAll _ q] at e; cases e
theorem off_tab {g h : Heap} {L b : Addr} {ps : Array Value} {rest : List (Addr × Obj)} (N : News g L h ((b, tabObj ps) :: rest)) (hr : ∀ p ∈ rest, ∀ vs, p.2.data ≠ .fields vs) : ∀ p ∈ rest, p ∈ (b, tabObj ps) :: rest ∧ p.1 ∉ [(b, tabObj ps)].map (·.1) := fun p hp => ⟨.tail _ hp, fun hm => by
    have e : p.1 = b := List.mem_singleton.mp hm
    have z := (N p (.tail _ hp)).1
    have z2 := (N _ (.head _)).1
    rw [e] at z
    dsimp only at z2
    rw [z2] at z
    exact hr p hp ps (congrArg Obj.data (Option.some.inj z)).symm⟩

end
/-! B23 -/
section
theorem call_told {prog : Program} {w : World} {A : Around} {s : Shared} {R : Result → Shared → Prop} {p : Program} {loose : List Str} {mg mb : Str → Option Value} {g : Heap} {L lr : Addr} {m : Str → Option Value} {news : List (Addr × Obj)} {vs : List Value} {rs : List Int} {n : Nat} {env0 : Env}
    (hfr : A.frames = some [env0]) (h1 : A.handled = none) (h2 : A.depth ≤ 550) (h3 : A.units ≤ 250) (hk0 : env0.scope.kind ≠ .module) (hf0 : env0.frame = some L)
    (X : (hd.heap_1 w.params).In g) (T : TopRead p loose mg mb g) (F : Fr g L s.heap m) (N : News g L s.heap news) (hlr : (lr, W.listOf vs.toArray n) ∈ news) (hi : IntsAre vs rs) (hlen : rs.length ≤ 10)
    (h : ∀ v h' tk G tn, Fr g L h' m → News g L h' (tn ++ news) → ((v = .none ∧ tn = [] ∧ rs.head? = some 0) ∨ ∃ l zs k, v = .ref l ∧ tn = [(l, W.listOf zs.toArray k)] ∧ IntsAre zs (told 4 none rs) ∧ rs.head? ≠ some 0) → ((∀ x ∈ s.gens, x.bare = true) → ∀ x ∈ G, x.bare = true) → R (.ok (.ret v)) { s with heap := h', toks := tk, gens := G }) :
    codeAny (model prog w) A (.call (.ref 180) ⟨[.ref lr], []⟩) R s := by
  by_cases hr : rs.head? = some 0
  · obtain ⟨o, es, ep, ho, hdt, hrr⟩ := F.ns
    have hgL : g.get? L = none := Heap.get?_none_of_le F.above
    have hne : ∀ b oo, g.get? b = some oo → b ∉ [(L, o)].map (·.1) := fun b oo e hm => by
      rw [show b = L from List.mem_singleton.mp hm, hgL] at e; cases e
    refine c_told0 h1 h2 h3 hfr hk0 hf0 (oLL := o) (fun q hq => by rcases List.mem_singleton.mp hq with rfl; exact ho) (fun vs e => by rw [hdt] at e; cases e)
      (X.keeps (hidden_keep F.keep fun q hq => by rcases List.mem_singleton.mp hq with rfl; exact hgL)) (T.keeps (hidden_keep F.keep fun q hq => by rcases List.mem_singleton.mp hq with rfl; exact hgL))
      (lr := lr) (vs := vs) ⟨_, hidden_get (N _ hlr).1 (fun hm => (N _ hlr).2.1 (List.mem_singleton.mp hm)), rfl, _, rfl⟩ hi hr ?_
    intro h' tk G sl st hL hb
    refine h .none h' tk G [] ⟨⟨_, es, ep, hL, hdt, hrr⟩, fun b oo e => st b oo (hidden_get (F.keep b oo e) (hne b oo e)), F.above⟩ (fun q hq => ?_) (.inl ⟨rfl, rfl, hr⟩) hb
    have z := N q hq
    exact ⟨st _ _ (hidden_get z.1 fun hm => z.2.1 (List.mem_singleton.mp hm)), z.2⟩
  · refine c_told h1 h2 h3 (X.keeps F.keep) (T.keeps F.keep) (News.isList N hlr) hi hr hlen ?_
    intro l h' tk zs k G st e1 e2 hz hb
    obtain ⟨F2, N2⟩ := more (E := [(l, W.listOf zs.toArray k)]) F N st fun q hq => by rcases List.mem_singleton.mp hq with rfl; exact ⟨e1, e2⟩
    exact h (.ref l) h' tk G _ F2 N2 (.inr ⟨l, zs, k, rfl, rfl, hz, hr⟩) hb
/-- a test that is false, whatever it costs in tokens -/
theorem If_false {M : Model} {A : Around} {env : Env} {test : Expr} {body orelse : List Stmt} {pos : Pos} {Q : Flow → Shared → Prop} {E : Value → Shared → Prop} {s : Shared}
    (ht : wpAny M A (isTrue test env (eval test env)) (fun b s' => b = false ∧ ∃ tk, s' = { s with toks := tk }) E s)
    (hr : ∀ tk, wpAny M A (execs orelse env) Q E { s with toks := tk }) : wpAny M A (exec (.If test body orelse pos) env) Q E s := by
  refine wpAny_If (wpAny_mono ht (fun b s' h => ?_) fun _ _ e => e)
  obtain ⟨rfl, tk, rfl⟩ := h
  rw [if_neg Bool.false_ne_true]
  exact hr tk
theorem told_zero {rs : List Int} (h : rs.head? = some 0) : rs.getD (Int.toNat 0) 0 = 0 := by
  cases rs with
  | nil => rfl
  | cons a r => simpa using h
theorem told_nz {rs : List Int} (h : rs.head? ≠ some 0) (hl : 3 ≤ rs.length) : rs.getD (Int.toNat 0) 0 ≠ 0 := by
  cases rs with
  | nil => simp at hl
  | cons a r => simpa using h
theorem off_new {g h : Heap} {L b : Addr} {o o' : Obj} {rest S : List (Addr × Obj)} (N : News g L h ((b, o) :: rest)) (hS : ∀ p ∈ S, h.get? p.1 = none) : ∀ p ∈ (b, o') :: rest, p.1 ∉ S.map (·.1) := by
  have key : ∀ p ∈ (b, o) :: rest, p.1 ∉ S.map (·.1) := fun p hp hm => by
    obtain ⟨q, hq, e⟩ := List.mem_map.mp hm
    have z := hS q hq
    rw [e, (N p hp).1] at z
    cases z
  intro p hp
  rcases List.mem_cons.mp hp with rfl | hp
  · exact key (b, o) (.head _)
  · exact key p (.tail _ hp)
theorem off_lex {a a0 : Lx} {w : World} {rest : List (Addr × Obj)} {pb x dx : Addr} {ti : Tok} (hkeys : ∀ b ∈ (a.MP w 0 0 0 [] 0).map (·.1), b = pb ∨ b = x ∨ b = dx ∨ b ∈ (a0.S w ti).map (·.1)) (h1 : ∀ p ∈ rest, p.1 ∉ (a0.S w ti).map (·.1))
    (h2 : ∀ p ∈ rest, @LT.lt Nat _ p.1 dx) (h3 : @LT.lt Nat _ dx x) (h4 : ∀ p ∈ rest, @Ne Nat p.1 pb) : ∀ p ∈ rest, p.1 ∉ (a.MP w 0 0 0 [] 0).map (·.1) := fun p hp hm => by
  rcases hkeys _ hm with e | e | e | e
  · exact h4 p hp e
  · exact absurd (Nat.lt_trans (h2 p hp) h3) (by rw [e]; exact Nat.lt_irrefl _)
  · exact absurd (h2 p hp) (by rw [e]; exact Nat.lt_irrefl _)
  · exact h1 p hp e
theorem mp_none {a : Lx} {w : World} {h : Heap} {i j n n' : Nat} {tl ti tl' ti' : Tok} {vs vs' : List Value} {more : List (Addr × Obj)} : ∀ p ∈ a.MP w j tl' ti' vs' n', (hidden h (a.MP w i tl ti vs n ++ more)).get? p.1 = none := fun p hp =>
  hideAll_none _ (by
    rw [List.map_append]
    refine List.mem_append_left _ ?_
    rw [Lx.MP_keys (j := j) (tl' := tl') (ti' := ti') (vs' := vs') (n' := n')]
    exact List.mem_map.mpr ⟨p, hp, rfl⟩)
theorem mp_off {a : Lx} {w : World} {i n : Nat} {tl ti : Tok} {vs : List Value} {b : Addr} (h : b ∉ (a.MP w 0 0 0 [] 0).map (·.1)) : b ∉ (a.MP w i tl ti vs n).map (·.1) := fun q => h (by rw [Lx.MP_keys (j := i) (tl' := tl) (ti' := ti) (vs' := vs) (n' := n)]; exact q)
theorem words_at {ps : List Piece} {ws : List Str} {row : List Int} (hmap : ps.map (fun p => plain p.es) = (ws ++ [Str.ofString "end"]).map (fun x => x.cps.toList)) (hl : ws.length = row.length)
    (hf : ∀ (k : Nat) v u, row[k]? = some v → ws[k]? = some u → WordFor v u) : ∀ (k : Nat) v, row[k]? = some v → ∃ u q, ps[k]? = some q ∧ plain q.es = u.cps.toList ∧ WordFor v u := by
  intro k v hv
  have hk : k < ws.length := by rw [hl]; exact (List.getElem?_eq_some_iff.mp hv).1
  have hu : ws[k]? = some ws[k] := List.getElem?_eq_getElem hk
  have e := congrArg (·[k]?) hmap
  simp only [List.getElem?_map] at e
  rw [List.getElem?_append_left hk, hu] at e
  obtain ⟨q, hq, hq2⟩ := Option.map_eq_some_iff.mp e
  exact ⟨ws[k], q, hq, hq2, hf k v _ hv hu⟩
theorem last_word {ps : List Piece} {ws : List Str} (hmap : ps.map (fun p => plain p.es) = (ws ++ [Str.ofString "end"]).map (fun x => x.cps.toList)) : ∃ q, ps.drop ws.length = [q] ∧ plain q.es = (Str.ofString "end").cps.toList := by
  have hl : ps.length = ws.length + 1 := by simpa using congrArg List.length hmap
  have e := congrArg (List.drop ws.length) hmap
  rw [← List.map_drop, ← List.map_drop, List.drop_left] at e
  cases hd2 : ps.drop ws.length with
  | nil => have := congrArg List.length hd2; simp [hl] at this
  | cons q r =>
    rw [hd2] at e
    simp only [List.map_cons, List.map_nil, List.cons.injEq, List.map_eq_nil_iff] at e
    exact ⟨q, by rw [e.2], e.1⟩
section
variable {prog : Program} {w : World} {A : Around} {s : Shared} {p : Program} {loose : List Str} {mg mb : Str → Option Value} {g : Heap} {L : Addr} {m : Str → Option Value} {rest : List (Addr × Obj)}
theorem ports_call {a : Lx} {i n : Nat} {tl₀ ti₀ tmost : Tok} {l : List Nat} {ps : List Piece} {row : List Int} {R : Result → Shared → Prop} (h1 : A.handled = none) (h2 : A.depth ≤ 550) (h3 : A.units ≤ 250) (ok : a.Ok w) (okp : a.pb ∉ (a.M w 0 0 0).map (·.1)) (hR : Rem a.tx i l) (hA : After l ps) (hps : ∀ q ∈ ps, q.Ok)
    (hlen : row.length ≤ 20) (hrow : ∀ x ∈ row, 253 ≤ x ∧ x ≤ 258) (hw : ∀ (k : Nat) v, (row ++ [0])[k]? = some v → ∃ u q, ps[k]? = some q ∧ plain q.es = u.cps.toList ∧ WordFor v u)
    (X : (hd.heap_1 w.params).In g) (T : TopRead p loose mg mb g) (F : Fr g L s.heap m) (N : News g L s.heap (a.MP w i tl₀ ti₀ [] n ++ rest)) (hr : ∀ p ∈ rest, p.1 ∉ (a.MP w 0 0 0 [] 0).map (·.1))
    (h : ∀ lr h' tk vs nr tl' ti' j l', Fr g L h' m → News g L h' (a.MP w j tl' ti' [] n ++ ((lr, W.listOf vs.toArray nr) :: rest)) → lr ∉ (a.MP w 0 0 0 [] 0).map (·.1) → IntsAre vs row → Rem a.tx j l' → After l' (ps.drop (row.length + 1)) → R (.ok (.ret (.ref lr))) { s with heap := h', toks := tk }) :
    codeAny (model prog w) A (.call (.ref 187) ⟨[.ref a.x, .int ((row.length + 1 : Nat) : Int) tmost], []⟩) R s := by
  refine c_ports h1 h2 h3 ok okp hR hA hps hlen hrow hw (n := n) (tl₀ := tl₀) (ti₀ := ti₀) (fun p hp => (N p (List.mem_append_left _ hp)).1) (X.keeps (hidden_keep F.keep fun p hp => (N p (List.mem_append_left _ hp)).2.2)) (T.keeps (hidden_keep F.keep fun p hp => (N p (List.mem_append_left _ hp)).2.2)) ?_
  intro lr h' tk vs nr tl' ti' j l' st hMj e0 e1 hI hRj hAj
  have hlr : lr ∉ (a.MP w 0 0 0 [] 0).map (·.1) := fun hm => by
    rw [Lx.MP_keys (j := i) (tl' := tl₀) (ti' := ti₀) (vs' := []) (n' := n)] at hm
    obtain ⟨q, hq, e⟩ := List.mem_map.mp hm
    have z := (N q (List.mem_append_left _ hq)).1
    rw [e, e0] at z; cases z
  obtain ⟨F2, N2⟩ := back2 (M := a.MP w i tl₀ ti₀ [] n ++ []) (all := a.MP w j tl' ti' [] n ++ [(lr, W.listOf vs.toArray nr)]) (rest := rest) F N (fun p hp => by rw [List.append_nil] at hp; exact List.mem_append_left _ hp) (by rw [List.append_nil]; exact st)
    (fun p hp => by
      rcases List.mem_append.mp hp with hp | hp
      · exact ⟨hMj p hp, mp_none p hp⟩
      · rcases List.mem_singleton.mp hp with rfl
        exact ⟨e1, hid_none e0⟩)
    (fun p hp => ⟨List.mem_append_right _ hp, by rw [List.append_nil]; exact mp_off (hr p hp)⟩)
  refine h lr h' tk vs nr tl' ti' j l' F2 (N2.perm fun q hq => ?_) hlr hI hRj hAj
  simp only [List.append_assoc, List.cons_append, List.nil_append] at hq ⊢
  exact hq
theorem found_call {a : Lx} {i n nc : Nat} {tl₀ ti₀ : Tok} {l : List Nat} {q : Piece} {ps : List Piece} {lc : Addr} {cs : List (Addr × List Value)} {cls : List (List Int)} {R : Result → Shared → Prop} (h1 : A.handled = none) (h2 : A.depth ≤ 550) (h3 : A.units ≤ 250) (ok : a.Ok w) (okp : a.pb ∉ (a.M w 0 0 0).map (·.1)) (hR : Rem a.tx i l) (hA : After l (q :: ps)) (hq : q.Ok)
    (hcs : RowsAre cs cls) (hcl : ∀ c ∈ cls, c ∈ all27) (hlen : cls.length ≤ 4)
    (X : (hd.heap_1 w.params).In g) (T : TopRead p loose mg mb g) (F : Fr g L s.heap m) (N : News g L s.heap (a.MP w i tl₀ ti₀ [] n ++ ((lc, W.listOf (refs cs).toArray nc) :: (cs.map rowObj ++ rest)))) (hr : ∀ p ∈ rest, p.1 ∉ (a.MP w 0 0 0 [] 0).map (·.1) ∧ p.1 ∉ (cs.map rowObj).map (·.1)) (hlc : lc ∉ (a.MP w 0 0 0 [] 0).map (·.1) ∧ lc ∉ (cs.map rowObj).map (·.1))
    (h : ∀ (lr lF lK : Addr) (U : Str) (tv : Tok) (frows : List (Addr × List Value)) (k nF nK n' j : Nat) (tl ti : Tok) (l' : List Nat) h' tk, Fr g L h' m → Rem a.tx j l' → After l' ps → U.cps.toList = plain q.es → RowsAre frows (FF cls k) → (FF cls k).length = k → Good (FF cls k) →
      News g L h' (a.MP w j tl ti [] n' ++ ((lr, tupO [.str U tv, .ref lF, .ref lK]) :: (lF, W.listOf (refs frows).toArray nF) :: (lK, W.listOf (refs frows).toArray nK) :: (frows.map rowObj ++ rest))) →
      R (.ok (.ret (.ref lr))) { s with heap := h', toks := tk }) :
    codeAny (model prog w) A (.call (.ref 199) ⟨[.ref a.x, .ref lc], []⟩) R s := by
  have inM : ∀ p ∈ a.MP w i tl₀ ti₀ [] n ++ cs.map rowObj, p ∈ a.MP w i tl₀ ti₀ [] n ++ ((lc, W.listOf (refs cs).toArray nc) :: (cs.map rowObj ++ rest)) := fun p hp => by
    rcases List.mem_append.mp hp with hp | hp
    · exact List.mem_append_left _ hp
    · exact List.mem_append_right _ (.tail _ (List.mem_append_left _ hp))
  have offM : ∀ b, b ∉ (a.MP w 0 0 0 [] 0).map (·.1) ∧ b ∉ (cs.map rowObj).map (·.1) → b ∉ (a.MP w i tl₀ ti₀ [] n ++ cs.map rowObj).map (·.1) := fun b hb hm => by
    rw [List.map_append] at hm
    rcases List.mem_append.mp hm with hm | hm
    · exact mp_off hb.1 hm
    · exact hb.2 hm
  have zc := N _ (List.mem_append_right _ (.head _))
  refine c_found h1 h2 h3 ok okp hR hA hq hcs hcl hlen (n := n) (tl₀ := tl₀) (ti₀ := ti₀) (fun p hp => (N p (inM p hp)).1) (X.keeps (hidden_keep F.keep fun p hp => (N p (inM p hp)).2.2)) (T.keeps (hidden_keep F.keep fun p hp => (N p (inM p hp)).2.2)) ⟨_, hidden_get zc.1 (offM _ hlc), rfl, _, rfl⟩ ?_
  intro lr lF lK U tv frows k nF nK n' j tl ti l' h' tk st hRj hAj hU hrows hk hg hall
  obtain ⟨F2, N2⟩ := back2 (M := a.MP w i tl₀ ti₀ [] n ++ cs.map rowObj) (rest := rest) F N inM st hall (fun p hp => ⟨List.mem_append_right _ (.tail _ (List.mem_append_right _ hp)), offM _ (hr p hp)⟩)
  refine h lr lF lK U tv frows k nF nK n' j tl ti l' h' tk F2 hRj hAj hU hrows hk hg (N2.perm fun q hq => ?_)
  simp only [List.mem_append, List.mem_cons] at hq ⊢
  rcases hq with h | h | h | h | h | h <;> simp only [h, true_or, or_true]
end
theorem mem_lay {α : Type} {t p : α} {S rest : List α} (h : p ∈ t :: rest) : p ∈ (t :: S) ++ rest := by
  simp only [List.cons_append, List.mem_cons, List.mem_append] at h ⊢
  rcases h with h | h <;> simp only [h, true_or, or_true]
theorem lay_found {g h : Heap} {L : Addr} {c : Addr × Obj} {R Ms rest : List (Addr × Obj)} (N : News g L h ((c :: R) ++ (Ms ++ rest))) : News g L h (Ms ++ (c :: (R ++ rest))) :=
  N.perm fun p hp => by
    simp only [List.cons_append, List.mem_append, List.mem_cons] at hp ⊢
    rcases hp with h | h | h | h <;> simp only [h, true_or, or_true]
theorem off_E {g h : Heap} {L : Addr} {news E : List (Addr × Obj)} (N : News g L h news) (hE : ∀ p ∈ E, h.get? p.1 = none) : ∀ p ∈ news, p.1 ∉ E.map (·.1) := fun p hp hm => by
  obtain ⟨q, hq, e⟩ := List.mem_map.mp hm
  have z := hE q hq
  rw [e, (N p hp).1] at z
  cases z
theorem new_off_mp {g h : Heap} {L : Addr} {a : Lx} {w : World} {i n : Nat} {tl ti : Tok} {vs : List Value} {b : Addr} {rest : List (Addr × Obj)} (N : News g L h (a.MP w i tl ti vs n ++ rest)) (e : h.get? b = none) : b ∉ (a.MP w 0 0 0 [] 0).map (·.1) := fun hm => by
  rw [Lx.MP_keys (j := i) (tl' := tl) (ti' := ti) (vs' := vs) (n' := n)] at hm
  obtain ⟨q, hq, e2⟩ := List.mem_map.mp hm
  have z := (N q (List.mem_append_left _ hq)).1
  rw [e2, e] at z
  cases z
theorem list_off_rows {h : Heap} {lc : Addr} {vs : List Value} {n : Nat} {cs : List (Addr × List Value)} (hall : ∀ p ∈ (lc, W.listOf vs.toArray n) :: cs.map rowObj, h.get? p.1 = some p.2) : lc ∉ (cs.map rowObj).map (·.1) := fun hm => by
  obtain ⟨q, hq, e⟩ := List.mem_map.mp hm
  obtain ⟨r, hr, rfl⟩ := List.mem_map.mp hq
  have z1 := hall _ (.head _)
  have z2 := hall _ (.tail _ hq)
  rw [e] at z2
  dsimp only at z1
  rw [z1] at z2
  exact tup_ne_list (Option.some.inj z2).symm
theorem rows_cut {ts sz : List Int} {cs : List (Addr × List Value)} (hsz : ∀ x ∈ sz, 1 ≤ x ∧ x ≤ 3) (hl : cs.length = sz.length) (hc : ∀ (k : Nat) c, cs[k]? = some c → IntsAre c.2 (cutAt (drawnOf ts sz).flatten sz k)) : RowsAre cs (clsOf ts sz) := by
  have hlen : (clsOf ts sz).length = sz.length := by unfold clsOf; rw [List.length_map, drawn_len]
  refine RowsAre.of_get (hl.trans hlen.symm) fun k r c hr hc2 => ?_
  have hk : k < sz.length := by rw [← hl]; exact (List.getElem?_eq_some_iff.mp hr).1
  rw [cut_is hsz hk] at hc2
  cases hc2
  exact hc k r hr
theorem cls_len {ts sz : List Int} : (clsOf ts sz).length = sz.length := by unfold clsOf; rw [List.length_map, drawn_len]
theorem ne_same_list {prog : Program} {w : World} {A : Around} {s : Shared} {E : Value → Shared → Prop} {Q : Value → Shared → Prop} {l b : Addr} {items : Array Value} (hl : s.heap.IsList l items) (hb : s.heap.IsList b items) (hu : A.units < cLine) (h : Q (.bool false) s) :
    wpAny (model prog w) A (compareOp .NotEq (.ref l) (.ref b)) Q E s := by
  have e : (!(List.range items.size).all fun _ => true) = false := by simp
  exact PySem.SeqAt.RcNeAt.lists (e := fun _ => true) hl hb rfl hu (fun j _ _ => PySem.SeqAt.EqAt.same _) prog w E Q (by rw [e]; exact h)
theorem drawn_form {ts sz : List Int} (hsz : ∀ x ∈ sz, 1 ≤ x ∧ x ≤ 3) : ∀ c ∈ drawnOf ts sz, c.length ≤ 3 ∧ ∀ x ∈ c, 253 ≤ x ∧ x ≤ 258 := by
  intro c hc
  obtain ⟨k, hk, rfl⟩ := List.mem_map.mp hc
  have hk' : k < sz.length := List.mem_range.mp hk
  have := hsz _ (List.getElem_mem hk')
  refine ⟨?_, clause_port⟩
  rw [clause_len, List.getD_eq_getElem?_getD, List.getElem?_eq_getElem hk']
  show sz[k].toNat ≤ 3
  omega
theorem masks_small : ∀ c ∈ all27, 0 ≤ maskOf c ∧ maskOf c ≤ 1000 := by decide +kernel
theorem news_tup {g h : Heap} {L : Addr} {news : List (Addr × Obj)} {r : Addr × List Value} (N : News g L h news) (hm : rowObj r ∈ news) : h.IsTuple r.1 r.2.toArray := ⟨_, (N _ hm).1, rfl, _, rfl⟩
theorem news_lst {g h : Heap} {L b : Addr} {news : List (Addr × Obj)} {vs : List Value} {n : Nat} (N : News g L h news) (hm : (b, W.listOf vs.toArray n) ∈ news) : h.IsList b vs.toArray := News.isList N hm

end
/-! B24 -/
section
/-- what the law ends with: True, all of the caller's objects as they were but the code tables, and no generator that may yet run -/
noncomputable def LawEnd (tabs : List (Addr × Addr)) (s₁ : Shared) (r : Result) (s' : Shared) : Prop :=
  r = .ok (.ret (.bool true)) ∧ (∀ b o, (ghostOf s₁.heap tabs).get? b = some o → s'.heap.get? b = some o) ∧ s'.os = s₁.os ∧ AllBare s'.gens ∧ GrownAll tabs s'.heap
theorem kn_postB {M : Model} {A : Around} {cd : Code} {s s₁ : Shared} {cw : ClaimW} {cl : Str → Option Addr} {mean : ExcName → Option Value} {args : List WData} {tabs : List (Addr × Addr)} (hT : TabsAt tabs s₁.heap) (hr : ∀ a x, cw.raises a x = false)
    (hp : cw.post args (.bool true) args = true) (h : codeAny M A cd (LawEnd tabs s₁) s) : codeAny M A cd (GoodWG cw cl mean args s₁) s :=
  codeAny_mono h fun r s' ⟨hc, hk, hos, hg, hgr⟩ => by
    have keep : ∀ b o, b ∉ tabs.map (·.2) → s₁.heap.get? b = some o → s'.heap.get? b = some o := fun b o hb e => hk b o (ghost_ne e hb)
    have grown : ∀ b o, b ∈ tabs.map (·.2) → s₁.heap.get? b = some o → isCodeTable s₁.heap b ∧ o = tabObj #[] ∧ ∃ ps, s'.heap.get? b = some (tabObj ps) := fun b o hb e => by
      obtain ⟨q, hq, rfl⟩ := List.mem_map.mp hb
      have e2 := (hT q hq).2
      rw [e] at e2
      exact ⟨((hT q hq).1.tab (hT q hq).2).isCodeTable, Option.some.inj e2, hgr.get q hq⟩
    refine ⟨.inl ⟨_, _, [], hc, fun cls => hr args cls, ReadsW.bool true, hp, fun _ => ⟨List.nodup_nil, fun _ hm => (nomatch hm)⟩⟩, ⟨fun b o e => ?_, fun b o e => ?_⟩, hos, hg⟩
    · by_cases hb : b ∈ tabs.map (·.2)
      · obtain ⟨ht, rfl, ps, hP⟩ := grown b o hb e
        exact .inr (.inl ⟨ht, rfl, #[], ps, rfl, by rw [Array.empty_append]; exact hP⟩)
      · exact .inl (keep b o hb e)
    · by_cases hb : b ∈ tabs.map (·.2)
      · obtain ⟨_, _, ps, hP⟩ := grown b o hb e
        exact ⟨_, hP⟩
      · exact ⟨o, keep b o hb e⟩
theorem lay_lex {g h : Heap} {L : Addr} {x1 x2 x3 t : Addr × Obj} {S rest : List (Addr × Obj)} (N : News g L h (x1 :: x2 :: x3 :: ((t :: S) ++ rest))) : News g L h (x1 :: x2 :: x3 :: (S ++ (t :: rest))) :=
  N.perm fun p hp => by
    simp only [List.cons_append, List.mem_append, List.mem_cons] at hp ⊢
    rcases hp with h | h | h | h | h | h <;> simp only [h, true_or, or_true]
/-- what the law has come to ahead of its last line -/
noncomputable def LawP (g : Heap) (L : Addr) (w : World) (s₁ s' : Shared) : Prop :=
  ∃ (a : Lx) (j n : Nat) (l : List Nat) (tl ti tx tt : Tok) (pt : Array Value) (m : Str → Option Value), a.Ok w ∧ a.pb ∉ (a.M w 0 0 0).map (·.1) ∧ Rem a.tx j l ∧ After l [] ∧
    Fr g L s'.heap m ∧ (∀ p ∈ [(Str.ofString "lexer", Value.ref a.x), (Str.ofString "text", Value.str a.tx tt)], m p.1 = some p.2) ∧
    News g L s'.heap (a.MP w j tl ti [] n ++ [(130, tabObj pt)]) ∧ (130 : Nat) ∉ (a.MP w 0 0 0 [] 0).map (·.1) ∧ (∀ x ∈ s'.gens, x.bare = true) ∧ s'.os = s₁.os
theorem cut_at {M : Model} {A : Around} {env : Env} {Q : Flow → Shared → Prop} {E : Value → Shared → Prop} {s : Shared} {body : List Stmt} (n : Nat) (P : Shared → Prop)
    (key : ∀ s', P s' → wpAny M A (execs (body.drop n) env) Q E s') (main : (∀ s', P s' → wpAny M A (execs (body.drop n) env) Q E s') → wpAny M A (execs body env) Q E s) : wpAny M A (execs body env) Q E s := main key
theorem cnt_is {c : Nat} : ∀ l : List Nat, cnt c l = ((l.count c : Nat) : Int)
  | [] => rfl
  | x :: r => by
    rw [cnt_cons, cnt_is r, List.count_cons]
    by_cases e : x = c
    · simp only [e, if_true, beq_self_eq_true]; omega
    · have e2 : (x == c) = false := by simpa using e
      simp only [e, e2, if_false, Bool.false_eq_true]; omega
theorem lines_all {x : Str} {j : Nat} (h : Rem x j []) : (((lineAt x j : Nat) : Int) == 1 + PySem.Txt.count x (Str.ofString "\n")) = true := by
  have e1 : PySem.Txt.count x (Str.ofString "\n") = cnt 10 x.cps.toList := by
    rw [show Str.ofString "\n" = (⟨#[10]⟩ : Str) from by decide +kernel]
    exact count_cnt x 10
  have e2 : x.cps.toList.take j = x.cps.toList := List.take_of_length_le (by simpa using h.2)
  rw [e1, cnt_is, lineAt, e2]
  simp

end
section
theorem law_try : PySem.Challenge.rw_wo0020_01.Holds := by
  refine hd (by
  k_fill
  intro w s₀ s₁ mg mb G Y fa o pm cd doc dV kV ho hd hcd hD hmg hgens args vals as hpre hlay hrd hwl hlo
  have KX := km_in_of Y
  km_tabs Y
  have X := (Ground.X G).1
  have V := (Ground.X G).2
  refine Ground.open G ?_
  intro T B D TE TW
  try (refine guard_noD D (by decide +kernel) ?_; clear D)
  km_lay T hmg ho hd cd
  clear hmg
  wrow_args hpre hlay hrd hwl hlo
  all_goals (
    first | refine callC_kw (enter_call ?_) | refine enter_call ?_
    w_top on
    refine kn_postB hT9 (fun _ _ => rfl) ?hpost ?_
    (case hpost => first | rfl | wrow_post)
    w_call any ho hd hcd hD T F
    clear hd
    kn_ghosts F T
    k_drop
    skip)
  (try (with_reducible apply Hid.use; with_reducible assumption)); (try dsimp only)
  refine cut_at 15 (LawP (ghostOf s₁.heap [(134, 130)]) s₁.heap.objs.size w s₁) ?key ?main
  case key =>
    rename Frag.In _ _ => X
    rename Top topProg _ _ _ _ _ => T'
    have T := topRead_of T'
    rename Fr _ _ _ _ => F0
    rename News _ _ _ _ => N0
    rintro ⟨h0, G0, d0, t0, o0⟩ ⟨a, j, n, l, tl, ti, tx, tt, pt, m, aok, aokp, hR, hA, F1, hm, N1, h130, hb, hos⟩
    dsimp only at hos hb F1 N1
    subst hos
    clear F0 N0
    replace F1 := frNames' _ F1 hm
    clear hm
    dsimp only [Lx.MP, Lx.M, Lx.dO, Lx.eO, List.cons_append, List.nil_append] at N1
    dsimp only [List.drop]
    ((try ((with_reducible show wpAny _ _ (execs _ _) _ _ _); (fail_if_success (with_reducible show wpAny _ _ _ Qh _ _)); refine hideQ ?_; intro Qh hQh)); repeat' ((fail_if_success (with_reducible show wpAny _ _ (exec (PySem.Stmt.Assign _ (PySem.Expr.ListComp _ _ _ _) _) _) _ _ _)); (fail_if_success (with_reducible show wpAny _ _ (exec (PySem.Stmt.For _ _ _ _ _) _) _ _ _)); (fail_if_success (with_reducible show wpAny _ _ (eval (PySem.Expr.ListComp _ _ _ _) _) _ _ _)); (fail_if_success (with_reducible show wpAny _ _ (compareOp CmpOp.NotEq (Value.ref _) (Value.ref _)) _ _ _)); (fail_if_success (with_reducible show wpAny _ _ (call (Value.ref _) _ _) _ _ _)); (first | walk1 | (dsimp only; walk1) | (with_reducible apply Hid.use; with_reducible assumption))))
    rename Fr _ _ _ _ => F2
    rename News _ _ _ _ => N2
    (try (with_reducible apply Hid.use; with_reducible assumption)); (try dsimp only)
    refine wpAny_call (get_call (rest := [(130, tabObj pt)]) (n := n) (tl := tl) (ti := ti) aok aokp hR (after_done hA) rfl (Nat.le_of_ble_eq_true rfl) (Nat.le_of_ble_eq_true rfl) X T F2 N2 (fun p hp => by rcases List.mem_singleton.mp hp with rfl; exact h130) ?_)
    intro h9 tk9 tv9 tl9 ti9 j9 U9 F42 N42 hR9 hU9
    obtain rfl : U9 = Str.ofString "" := str_ext (hU9.trans (by decide +kernel))
    clear F2 N2
    dsimp only [Lx.MP, Lx.M, Lx.dO, Lx.eO, List.cons_append, List.nil_append] at N42
    (try (with_reducible apply Hid.use; with_reducible assumption)); (try dsimp only)
    ((try ((with_reducible show wpAny _ _ (execs _ _) _ _ _); (fail_if_success (with_reducible show wpAny _ _ _ Qh _ _)); refine hideQ ?_; intro Qh hQh)); repeat' ((fail_if_success (with_reducible show wpAny _ _ (exec (PySem.Stmt.Assign _ (PySem.Expr.ListComp _ _ _ _) _) _) _ _ _)); (fail_if_success (with_reducible show wpAny _ _ (exec (PySem.Stmt.For _ _ _ _ _) _) _ _ _)); (fail_if_success (with_reducible show wpAny _ _ (eval (PySem.Expr.ListComp _ _ _ _) _) _ _ _)); (fail_if_success (with_reducible show wpAny _ _ (compareOp CmpOp.NotEq (Value.ref _) (Value.ref _)) _ _ _)); (fail_if_success (with_reducible show wpAny _ _ (call (Value.ref _) _ _) _ _ _)); (first | walk1 | (dsimp only; walk1) | (with_reducible apply Hid.use; with_reducible assumption))))
    rename Fr _ _ _ _ => F5
    rename News _ _ _ _ => N5
    refine ⟨congrArg (fun b => Except.ok (Flow.ret (Value.bool b))) (lines_all hR9), F5.keep, rfl, hb, ⟨GrownAt.of (ps := pt) N5 (by k_mem), True.intro⟩⟩
  intro key
  rename Shared => s₁
  rename World => w
  all_goals (try k_fold)
  rename Frag.In _ _ => X
  rename Top topProg _ _ _ _ _ => T'
  have T := topRead_of T'
  rename IntsAre _ _ => hI
  rename Heap.IsList (ghostOf _ _) _ _ => lst
  rename (¬ _ < _) => hlen
  ((try ((with_reducible show wpAny _ _ (execs _ _) _ _ _); (fail_if_success (with_reducible show wpAny _ _ _ Qh _ _)); refine hideQ ?_; intro Qh hQh)); repeat' ((fail_if_success (with_reducible show wpAny _ _ (exec (PySem.Stmt.Assign _ (PySem.Expr.ListComp _ _ _ _) _) _) _ _ _)); (fail_if_success (with_reducible show wpAny _ _ (exec (PySem.Stmt.For _ _ _ _ _) _) _ _ _)); (fail_if_success (with_reducible show wpAny _ _ (eval (PySem.Expr.ListComp _ _ _ _) _) _ _ _)); (fail_if_success (with_reducible show CElt _ _ _ _ _ _ _ _ _ _ _)); (fail_if_success (with_reducible show wpAny _ _ (call (Value.ref _) _ _) _ _ _)); (first | walk1 | (dsimp only; walk1) | (with_reducible apply Hid.use; with_reducible assumption))))
  rename Fr _ _ _ _ => F1
  rename News _ _ _ _ => N1
  refine wpAny_call (c_totals rfl (Nat.le_of_ble_eq_true rfl) (Nat.le_of_ble_eq_true rfl) (X.keeps F1.keep) (T.keeps F1.keep) (stays_list F1.keep lst) hI (by omega) ?_)
  intro lt h2 tk2 vt ts nt k e0 e1 hIt h5 hb
  obtain ⟨F2, N2⟩ := one_more F1 N1 k e0 e1
  clear e0 e1 k
  (try (with_reducible apply Hid.use; with_reducible assumption)); (try dsimp only)
  ((try ((with_reducible show wpAny _ _ (execs _ _) _ _ _); (fail_if_success (with_reducible show wpAny _ _ _ Qh _ _)); refine hideQ ?_; intro Qh hQh)); repeat' ((fail_if_success (with_reducible show wpAny _ _ (exec (PySem.Stmt.Assign _ (PySem.Expr.ListComp _ _ _ _) _) _) _ _ _)); (fail_if_success (with_reducible show wpAny _ _ (exec (PySem.Stmt.For _ _ _ _ _) _) _ _ _)); (fail_if_success (with_reducible show wpAny _ _ (eval (PySem.Expr.ListComp _ _ _ _) _) _ _ _)); (fail_if_success (with_reducible show CElt _ _ _ _ _ _ _ _ _ _ _)); (fail_if_success (with_reducible show wpAny _ _ (call (Value.ref _) _ _) _ _ _)); (first | walk1 | (dsimp only; walk1) | (with_reducible apply Hid.use; with_reducible assumption))))
  have h4 : 0 ≤ ts.getD (Int.toNat 4) 0 ∧ ts.getD (Int.toNat 4) 0 ≤ 100000000 := by
    have : (Int.toNat 4) < ts.length := by rw [h5]; decide
    rw [List.getD_eq_getElem?_getD, List.getElem?_eq_getElem this]
    exact hb _ (List.getElem_mem this)
  rename Fr _ _ _ _ => F3
  rename News _ _ _ _ => N3
  refine wpAny_call (c_ruler rfl (Nat.le_of_ble_eq_true rfl) (Nat.le_of_ble_eq_true rfl) (X.keeps F3.keep) (T.keeps F3.keep) h4.1 (by omega) ?_)
  intro lr h3 tk3 vr k e0 e1 hIr
  obtain ⟨F4, N4⟩ := one_more F3 N3 k e0 e1
  clear e0 e1 k
  (try (with_reducible apply Hid.use; with_reducible assumption)); (try dsimp only)
  ((try ((with_reducible show wpAny _ _ (execs _ _) _ _ _); (fail_if_success (with_reducible show wpAny _ _ _ Qh _ _)); refine hideQ ?_; intro Qh hQh)); repeat' ((fail_if_success (with_reducible show wpAny _ _ (exec (PySem.Stmt.Assign _ (PySem.Expr.ListComp _ _ _ _) _) _) _ _ _)); (fail_if_success (with_reducible show wpAny _ _ (exec (PySem.Stmt.For _ _ _ _ _) _) _ _ _)); (fail_if_success (with_reducible show wpAny _ _ (eval (PySem.Expr.ListComp _ _ _ _) _) _ _ _)); (fail_if_success (with_reducible show CElt _ _ _ _ _ _ _ _ _ _ _)); (fail_if_success (with_reducible show wpAny _ _ (call (Value.ref _) _ _) _ _ _)); (first | walk1 | (dsimp only; walk1) | (with_reducible apply Hid.use; with_reducible assumption))))
  rename Fr _ _ _ _ => F5
  rename News _ _ _ _ => N5
  obtain ⟨hr3, hr4, hsl, hsz⟩ := rulers_are _ (ruler_in (ts.getD (Int.toNat 4) 0))
  refine wpAny_call (c_sizes rfl (Nat.le_of_ble_eq_true rfl) (Nat.le_of_ble_eq_true rfl) (X.keeps F5.keep) (T.keeps F5.keep) (by is_list) hIr hr4 ?_)
  intro ls h4' tk4 vs k e0 e1 hIs
  obtain ⟨F6, N6⟩ := one_more F5 N5 k e0 e1
  clear e0 e1 k
  (try (with_reducible apply Hid.use; with_reducible assumption)); (try dsimp only)
  ((try ((with_reducible show wpAny _ _ (execs _ _) _ _ _); (fail_if_success (with_reducible show wpAny _ _ _ Qh _ _)); refine hideQ ?_; intro Qh hQh)); repeat' ((fail_if_success (with_reducible show wpAny _ _ (exec (PySem.Stmt.Assign _ (PySem.Expr.ListComp _ _ _ _) _) _) _ _ _)); (fail_if_success (with_reducible show wpAny _ _ (exec (PySem.Stmt.For _ _ _ _ _) _) _ _ _)); (fail_if_success (with_reducible show wpAny _ _ (eval (PySem.Expr.ListComp _ _ _ _) _) _ _ _)); (fail_if_success (with_reducible show CElt _ _ _ _ _ _ _ _ _ _ _)); (fail_if_success (with_reducible show wpAny _ _ (call (Value.ref _) _ _) _ _ _)); (first | walk1 | (dsimp only; walk1) | (with_reducible apply Hid.use; with_reducible assumption))))
  refine AssignComp_ (by rfl) ?_
  ((try ((with_reducible show wpAny _ _ (execs _ _) _ _ _); (fail_if_success (with_reducible show wpAny _ _ _ Qh _ _)); refine hideQ ?_; intro Qh hQh)); repeat' ((fail_if_success (with_reducible show wpAny _ _ (exec (PySem.Stmt.Assign _ (PySem.Expr.ListComp _ _ _ _) _) _) _ _ _)); (fail_if_success (with_reducible show wpAny _ _ (exec (PySem.Stmt.For _ _ _ _ _) _) _ _ _)); (fail_if_success (with_reducible show wpAny _ _ (eval (PySem.Expr.ListComp _ _ _ _) _) _ _ _)); (fail_if_success (with_reducible show CElt _ _ _ _ _ _ _ _ _ _ _)); (fail_if_success (with_reducible show wpAny _ _ (call (Value.ref _) _ _) _ _ _)); (first | walk1 | (dsimp only; walk1) | (with_reducible apply Hid.use; with_reducible assumption))))
  rename IsRange _ _ _ _ _ _ _ _ => hr
  rename Fr _ _ _ _ => F7
  rename News _ _ _ _ => N7
  rename (_ = Data.cell (some (Value.ref lt))) => dT
  rename (_ = Data.cell (some (Value.ref ls))) => dS
  dsimp only at hr
  have hcT := News.get N7 (by k_mem : (s₁.heap.objs.size + 1, _) ∈ _)
  have hcS := News.get N7 (by k_mem : (s₁.heap.objs.size + 1 + 1, _) ∈ _)
  have hlT := News.isList N7 (by k_mem : (lt, W.listOf vt.toArray nt) ∈ _)
  have hlS := News.isList N7 (by k_mem : (ls, W.listOf vs.toArray 0) ∈ _)
  have X7 := X.keeps F7.keep
  have T7 := T.keeps F7.keep
  refine comp_rangeA (n := (sizesOf (rulerOf (ts.getD (Int.toNat 4) 0))).length)
    (fun i ys news => ∃ cs : List (Addr × List Value), ys = cs.map (fun c => Value.ref c.1) ∧ news = cs.map (fun c => (c.1, W.listOf c.2.toArray c.2.length)) ∧ cs.length = i ∧ ∀ (k : Nat) c, cs[k]? = some c → IntsAre c.2 (clauseOf (ts.getD k 0) ((sizesOf (rulerOf (ts.getD (Int.toNat 4) 0))).getD k 0).toNat))
    F7 N7 rfl hr ?_ ?_ ?_ ⟨[], rfl, rfl, rfl, by intro k c hc; simp at hc⟩ ?_ ?_
  rotate_left 3
  · rintro i tv ys news I C D oI g tk E' hi' ⟨cs, rfl, rfl, hcl, hcs⟩ F8 N8 ha hd
    refine tests_nil ?_
    refine CTest.intro _ F8 N8 (fun p hp => hp) ha ?_
    rw [if_pos rfl]
    intro oI h tk E' F9 N9
    rw [Int.zero_add] at F9
    have hk5 : i < ts.length := by omega
    have hcb : 0 ≤ ts.getD (i : Int).toNat 0 ∧ ts.getD (i : Int).toNat 0 ≤ 100000000 := by
      rw [Int.toNat_natCast, List.getD_eq_getElem?_getD, List.getElem?_eq_getElem hk5]
      exact hb _ (List.getElem_mem hk5)
    have hsb : 1 ≤ (sizesOf (rulerOf (ts.getD (Int.toNat 4) 0))).getD (i : Int).toNat 0 ∧ (sizesOf (rulerOf (ts.getD (Int.toNat 4) 0))).getD (i : Int).toNat 0 ≤ 3 := by
      rw [Int.toNat_natCast, List.getD_eq_getElem?_getD, List.getElem?_eq_getElem hi']
      exact hsz _ (List.getElem_mem hi')
    ((try ((with_reducible show wpAny _ _ (execs _ _) _ _ _); (fail_if_success (with_reducible show wpAny _ _ _ Qh _ _)); refine hideQ ?_; intro Qh hQh)); repeat' ((fail_if_success (with_reducible show wpAny _ _ (exec (PySem.Stmt.Assign _ (PySem.Expr.ListComp _ _ _ _) _) _) _ _ _)); (fail_if_success (with_reducible show wpAny _ _ (exec (PySem.Stmt.For _ _ _ _ _) _) _ _ _)); (fail_if_success (with_reducible show wpAny _ _ (eval (PySem.Expr.ListComp _ _ _ _) _) _ _ _)); (fail_if_success (with_reducible show CElt _ _ _ _ _ _ _ _ _ _ _)); (fail_if_success (with_reducible show wpAny _ _ (call (Value.ref _) _ _) _ _ _)); (first | walk1 | (dsimp only; walk1) | (with_reducible apply Hid.use; with_reducible assumption))))
    rename Fr _ _ _ _ => Fa
    rename News _ _ _ _ => Na
    rw [show (sizesOf (rulerOf (ts.getD (Int.toNat 4) 0))).getD (i : Int).toNat 0 = ((((sizesOf (rulerOf (ts.getD (Int.toNat 4) 0))).getD (i : Int).toNat 0).toNat : Nat) : Int) from (Int.toNat_of_nonneg (by omega)).symm]
    refine wpAny_call (c_clause rfl (Nat.le_of_ble_eq_true rfl) (Nat.le_of_ble_eq_true rfl) (X7.keeps Fa.keep) (T7.keeps Fa.keep) hcb.1 (by omega) (by omega) ?_)
    intro lc hc' tkc vc k e0 e1 hIc
    obtain ⟨Fb, Nb⟩ := one_more Fa Na k e0 e1
    rw [← Int.zero_add (i : Int)] at Fb
    (try (with_reducible apply Hid.use; with_reducible assumption)); (try dsimp only)
    refine CElt.intro (cs.map (fun c => (c.1, W.listOf c.2.toArray c.2.length)) ++ [(lc, W.listOf vc.toArray vc.length)]) Fb Nb (fun p hp => ?_) (fun p hp => ?_) ⟨cs ++ [(lc, vc)], by rw [List.map_append]; rfl, by rw [List.map_append]; rfl, by rw [List.length_append, hcl]; rfl, ?_⟩
    · simp only [List.mem_cons, List.mem_append, List.not_mem_nil, or_false] at hp ⊢
      rcases hp with h | h | h | h
      · exact .inr (.inl h)
      · exact .inr (.inr (.inl h))
      · exact .inr (.inr (.inr h))
      · exact .inl h
    · rcases List.mem_append.mp hp with hp | hp
      · exact ha p hp
      · rcases List.mem_singleton.mp hp with rfl
        refine ⟨fun q => ?_, fun q => ?_⟩
        · have := (Na _ (.head _)).1; dsimp only at this q; rw [← q, e0] at this; cases this
        · have := (Na _ (.tail _ (.head _))).1; dsimp only at this q; rw [← q, e0] at this; cases this
    · intro k c hk
      by_cases q : k < cs.length
      · rw [List.getElem?_append_left q] at hk; exact hcs k c hk
      · have hlt : k < (cs ++ [(lc, vc)]).length := (List.getElem?_eq_some_iff.mp hk).1
        rw [List.length_append, List.length_cons, List.length_nil] at hlt
        have e2 : k = cs.length := by omega
        subst e2
        rw [List.getElem?_append_right (Nat.le_refl _), Nat.sub_self] at hk
        simp only [List.getElem?_cons_zero, Option.some.injEq] at hk
        subst hk
        rw [hcl]
        rw [Int.toNat_natCast] at hIc
        exact hIc
  · rintro D g tk ys news ⟨cs, rfl, rfl, hcl, hcs⟩ F8 N8 hne
    clear F7 N7
    generalize hSZ : sizesOf (rulerOf (ts.getD (Int.toNat 4) 0)) = sz at *
    ((try ((with_reducible show wpAny _ _ (execs _ _) _ _ _); (fail_if_success (with_reducible show wpAny _ _ _ Qh _ _)); refine hideQ ?_; intro Qh hQh)); repeat' ((fail_if_success (with_reducible show wpAny _ _ (exec (PySem.Stmt.Assign _ (PySem.Expr.ListComp _ _ _ _) _) _) _ _ _)); (fail_if_success (with_reducible show wpAny _ _ (exec (PySem.Stmt.For _ _ _ _ _) _) _ _ _)); (fail_if_success (with_reducible show wpAny _ _ (eval (PySem.Expr.ListComp _ _ _ _) _) _ _ _)); (fail_if_success (with_reducible show CElt _ _ _ _ _ _ _ _ _ _ _)); (fail_if_success (with_reducible show wpAny _ _ (call (Value.ref _) _ _) _ _ _)); (first | walk1 | (dsimp only; walk1) | (with_reducible apply Hid.use; with_reducible assumption))))
    rename Fr _ _ _ _ => Fb
    rename News _ _ _ _ => Nb
    refine AssignCompG (by rfl) ?_
    ((try ((with_reducible show wpAny _ _ (execs _ _) _ _ _); (fail_if_success (with_reducible show wpAny _ _ _ Qh _ _)); refine hideQ ?_; intro Qh hQh)); repeat' ((fail_if_success (with_reducible show wpAny _ _ (exec (PySem.Stmt.Assign _ (PySem.Expr.ListComp _ _ _ _) _) _) _ _ _)); (fail_if_success (with_reducible show wpAny _ _ (exec (PySem.Stmt.For _ _ _ _ _) _) _ _ _)); (fail_if_success (with_reducible show wpAny _ _ (eval (PySem.Expr.ListComp _ _ _ _) _) _ _ _)); (fail_if_success (with_reducible show CElt _ _ _ _ _ _ _ _ _ _ _)); (fail_if_success (with_reducible show wpAny _ _ (call (Value.ref _) _ _) _ _ _)); (first | walk1 | (dsimp only; walk1) | (with_reducible apply Hid.use; with_reducible assumption))))
    rename Fr _ _ _ _ => Fc
    rename News _ _ _ _ => Nc
    have hin : ∀ c ∈ cs, (c.1, W.listOf c.2.toArray c.2.length) ∈ cs.map (fun c => (c.1, W.listOf c.2.toArray c.2.length)) := fun c hc => List.mem_map.mpr ⟨c, hc, rfl⟩
    have hI2 : IntsAre (cs.map (·.2)).flatten (drawnOf ts sz).flatten := ints_flatten (by rw [List.length_map, hcl, drawn_len]) fun k a b ha hb => by
      rw [List.getElem?_map] at ha
      obtain ⟨c, hc, rfl⟩ := Option.map_eq_some_iff.mp ha
      have hk : k < cs.length := (List.getElem?_eq_some_iff.mp hc).1
      rw [drawn_get (by omega)] at hb
      cases hb
      exact hcs k c hc
    have hfl : (drawnOf ts sz).flatten.length ≤ 12 := by
      refine Nat.le_trans (flat_len 3 _ fun r hr => ?_) (by rw [drawn_len]; omega)
      obtain ⟨k, hk, rfl⟩ := List.mem_map.mp hr
      rw [clause_len]
      have hk' : k < sz.length := List.mem_range.mp hk
      have := hsz _ (List.getElem_mem hk')
      rw [List.getD_eq_getElem?_getD, List.getElem?_eq_getElem hk']
      simp only [Option.getD_some]
      omega
    refine flat2A (cs.map (·.2)) Fc Nc rfl (News.isList Nc (.head _)) (by simp) ?_ (by rw [hI2.length, sizeLine_eq]; omega) ?_
    · intro i v hv
      have hv' : (cs.map (fun c => Value.ref c.1))[i]? = some v := by simpa using hv
      rw [List.getElem?_map] at hv'
      obtain ⟨c, hc, rfl⟩ := Option.map_eq_some_iff.mp hv'
      exact ⟨c.1, c.2, rfl, by rw [List.getElem?_map, hc]; rfl, News.isList Nc (.tail _ (List.mem_append.mpr (.inl (hin c (List.mem_of_getElem? hc)))))⟩
    intro lw g5 tk5 F10 N10
    clear Fc Nc
    have hsum := sum_bound (b := 100000000) (by decide) hb
    have hsum2 : 0 ≤ ts.sum ∧ ts.sum ≤ 500000000 := by
      have e : ((ts.length : Nat) : Int) = 5 := by rw [h5]; rfl
      rw [e] at hsum; omega
    ((try ((with_reducible show wpAny _ _ (execs _ _) _ _ _); (fail_if_success (with_reducible show wpAny _ _ _ Qh _ _)); refine hideQ ?_; intro Qh hQh)); repeat' ((fail_if_success (with_reducible show wpAny _ _ (exec (PySem.Stmt.Assign _ (PySem.Expr.ListComp _ _ _ _) _) _) _ _ _)); (fail_if_success (with_reducible show wpAny _ _ (exec (PySem.Stmt.For _ _ _ _ _) _) _ _ _)); (fail_if_success (with_reducible show wpAny _ _ (eval (PySem.Expr.ListComp _ _ _ _) _) _ _ _)); (fail_if_success (with_reducible show CElt _ _ _ _ _ _ _ _ _ _ _)); (fail_if_success (with_reducible show wpAny _ _ (call (Value.ref _) _ _) _ _ _)); (first | walk1 | (dsimp only; walk1) | (with_reducible apply Hid.use; with_reducible assumption))))
    rename Fr _ _ _ _ => Fb
    rename News _ _ _ _ => Nb
    rename IntsAre _ (_ ++ _) => hIrow
    have hrl : ((drawnOf ts sz).flatten ++ [0]).length ≤ 13 := by rw [List.length_append]; simp only [List.length_cons, List.length_nil]; omega
    refine wpAny_call (c_words rfl (Nat.le_of_ble_eq_true rfl) (Nat.le_of_ble_eq_true rfl) (X.keeps Fb.keep) (T.keeps Fb.keep) (by is_list) hIrow (by omega) row_port hsum2.1 (by omega) ?_)
    intro lw2 g6 tk6 vw ws nw k e0 e1 hSw hwl hwf
    obtain ⟨F11, N11⟩ := one_more Fb Nb k e0 e1
    clear e0 e1 k
    (try (with_reducible apply Hid.use; with_reducible assumption)); (try dsimp only)
    ((try ((with_reducible show wpAny _ _ (execs _ _) _ _ _); (fail_if_success (with_reducible show wpAny _ _ _ Qh _ _)); refine hideQ ?_; intro Qh hQh)); repeat' ((fail_if_success (with_reducible show wpAny _ _ (exec (PySem.Stmt.Assign _ (PySem.Expr.ListComp _ _ _ _) _) _) _ _ _)); (fail_if_success (with_reducible show wpAny _ _ (exec (PySem.Stmt.For _ _ _ _ _) _) _ _ _)); (fail_if_success (with_reducible show wpAny _ _ (eval (PySem.Expr.ListComp _ _ _ _) _) _ _ _)); (fail_if_success (with_reducible show CElt _ _ _ _ _ _ _ _ _ _ _)); (fail_if_success (with_reducible show wpAny _ _ (call (Value.ref _) _ _) _ _ _)); (first | walk1 | (dsimp only; walk1) | (with_reducible apply Hid.use; with_reducible assumption))))
    rename Fr _ _ _ _ => Fb
    rename News _ _ _ _ => Nb
    refine wpAny_call (c_spelled rfl (Nat.le_of_ble_eq_true rfl) (Nat.le_of_ble_eq_true rfl) (X.keeps Fb.keep) (T.keeps Fb.keep) (by is_list) hSw (by rw [List.length_append, hwl]; simp only [List.length_cons, List.length_nil]; omega) (words_ok row_port hwl hwf) hsum2.1 (by omega) ?_)
    intro tx tkx g7 tk7 ps k hT hps hmap hTl
    have F12 := Fb.keeps k
    have N12 := Nb.grown k
    (try (with_reducible apply Hid.use; with_reducible assumption)); (try dsimp only)
    ((try ((with_reducible show wpAny _ _ (execs _ _) _ _ _); (fail_if_success (with_reducible show wpAny _ _ _ Qh _ _)); refine hideQ ?_; intro Qh hQh)); repeat' ((fail_if_success (with_reducible show wpAny _ _ (exec (PySem.Stmt.Assign _ (PySem.Expr.ListComp _ _ _ _) _) _) _ _ _)); (fail_if_success (with_reducible show wpAny _ _ (exec (PySem.Stmt.For _ _ _ _ _) _) _ _ _)); (fail_if_success (with_reducible show wpAny _ _ (eval (PySem.Expr.ListComp _ _ _ _) _) _ _ _)); (fail_if_success (with_reducible show CElt _ _ _ _ _ _ _ _ _ _ _)); (fail_if_success (with_reducible show wpAny _ _ (call (Value.ref _) _ _) _ _ _)); (first | walk1 | (dsimp only; walk1) | (with_reducible apply Hid.use; with_reducible assumption))))
    rename Fr _ _ _ _ => F13
    rename News _ _ _ _ => N13
    replace N13 := law_ledger N13
    refine wpAny_call (c_stream (mean := _) rfl (Nat.le_of_ble_eq_true rfl) (Nat.le_of_ble_eq_true rfl) (fun p hp => (N13 p (mem1 hp)).1) (X.keeps (hidden_keep F13.keep fun p hp => (N13 p (mem1 hp)).2.2)) (T'.keeps (hidden_keep F13.keep fun p hp => (N13 p (mem1 hp)).2.2)) (codeHd.keeps (hidden_keep F13.keep fun p hp => (N13 p (mem1 hp)).2.2)) (by omega) ?_)
    intro g8 tk8 a0 ti0 st sok htx hS h130
    obtain ⟨p130, h130⟩ := h130
    obtain ⟨F14, N14⟩ := back2 (all := (130, tabObj p130) :: a0.S w ti0) F13 N13 (fun p hp => mem1 hp) st (fun p hp => by
      rcases List.mem_cons.mp hp with rfl | hp
      · exact ⟨h130, hideAll_none _ (List.mem_singleton.mpr rfl)⟩
      · exact ⟨(hS p hp).1, hid_none (hS p hp).2⟩) (off_tab N13 (fun p hp vs e => by
      simp only [List.mem_cons, List.mem_map] at hp
      rcases hp with rfl | rfl | rfl | rfl | rfl | rfl | ⟨c, _, rfl⟩
      · cases e
      · cases e
      · rw [dS] at e; cases e
      · rw [dT] at e; cases e
      · cases e
      · cases e
      · cases e))
    have hoS := off_new (o' := tabObj p130) (S := a0.S w ti0) N13 (fun p hp => (hS p hp).2)
    clear F13 N13
    (try (with_reducible apply Hid.use; with_reducible assumption)); (try dsimp only)
    ((try ((with_reducible show wpAny _ _ (execs _ _) _ _ _); (fail_if_success (with_reducible show wpAny _ _ _ Qh _ _)); refine hideQ ?_; intro Qh hQh)); repeat' ((fail_if_success (with_reducible show wpAny _ _ (exec (PySem.Stmt.Assign _ (PySem.Expr.ListComp _ _ _ _) _) _) _ _ _)); (fail_if_success (with_reducible show wpAny _ _ (exec (PySem.Stmt.For _ _ _ _ _) _) _ _ _)); (fail_if_success (with_reducible show wpAny _ _ (eval (PySem.Expr.ListComp _ _ _ _) _) _ _ _)); (fail_if_success (with_reducible show CElt _ _ _ _ _ _ _ _ _ _ _)); (fail_if_success (with_reducible show wpAny _ _ (call (Value.ref _) _ _) _ _ _)); (first | walk1 | (dsimp only; walk1) | (with_reducible apply Hid.use; with_reducible assumption))))
    refine' call_cls ?kc1 ?kc2 ?kc3 ?kc4 ?kc5 ?kc6 ?_
    (case kc1 => k_asm); (case kc2 => k_asm); (case kc3 => k_asm); (case kc4 => k_is); (case kc5 => k_is); (case kc6 => k_is)
    intro x dx h9 F15 N15 l15 l16
    refine c_init rfl (Nat.le_of_ble_eq_true rfl) (Nat.le_of_ble_eq_true rfl) (fun p hp => (N15 p (mem2 hp)).1) (X.keeps (hidden_keep F15.keep fun p hp => (N15 p (mem2 hp)).2.2)) (T.keeps (hidden_keep F15.keep fun p hp => (N15 p (mem2 hp)).2.2)) l16 ?_
    intro ha tka pb t1 t2 t3 t4 tl tw st e1 e2 e3 e4
    refine ⟨rfl, ?_⟩
    (try (with_reducible apply Hid.use; with_reducible assumption)); (try dsimp only)
    dsimp only [ent] at e1
    obtain ⟨F16, N16⟩ := back_cls F15 N15 l15 l16 st e1 e2 e3 e4
    have np : ∀ q : Addr × Obj, q ∈ _ → @Ne Nat q.1 pb := fun q hq e => by
      have z := (N15 q hq).1
      rw [show q.1 = pb from e, e3] at z; cases z
    have q1 := np _ (.head _)
    have q2 := np _ (.tail _ (.head _))
    have N16' := lay_lex N16
    have zz := mk_lex sok N16' (fun p hp => l15 p (List.mem_append_left _ (.tail _ hp))) l16 (fun p hp => np p (.tail _ (.tail _ (List.mem_append_left _ (.tail _ hp))))) q1 q2
    clear N16 N16' N15 F15 N14 F14
    obtain ⟨a, aok, aokp, atx, hax, N17, hkeys⟩ := zz
    have hoff := off_lex hkeys hoS (fun p hp => l15 p (mem_lay hp)) l16 (fun p hp => np p (.tail _ (.tail _ (mem_lay hp))))
    clear hkeys hoS l15 np
    subst hax
    ((try ((with_reducible show wpAny _ _ (execs _ _) _ _ _); (fail_if_success (with_reducible show wpAny _ _ _ Qh _ _)); refine hideQ ?_; intro Qh hQh)); repeat' ((fail_if_success (with_reducible show wpAny _ _ (exec (PySem.Stmt.Assign _ (PySem.Expr.ListComp _ _ _ _) _) _) _ _ _)); (fail_if_success (with_reducible show wpAny _ _ (exec (PySem.Stmt.For _ _ _ _ _) _) _ _ _)); (fail_if_success (with_reducible show wpAny _ _ (eval (PySem.Expr.ListComp _ _ _ _) _) _ _ _)); (fail_if_success (with_reducible show CElt _ _ _ _ _ _ _ _ _ _ _)); (fail_if_success (with_reducible show wpAny _ _ (call (Value.ref _) _ _) _ _ _)); (first | walk1 | (dsimp only; walk1) | (with_reducible apply Hid.use; with_reducible assumption))))
    rename Fr _ _ _ _ => F18
    rename News _ _ _ _ => N18
    refine wpAny_call ?_
    refine' call_told (lr := lr) (vs := vr) (n := 0) ?a1 ?a2 ?a3 ?a4 ?a5 ?a6 X T F18 N18 ?a7 hIr ?a8 ?_
    (case a1 => exact rfl)
    (case a2 => exact rfl)
    (case a3 => exact Nat.le_of_ble_eq_true rfl)
    (case a4 => exact Nat.le_of_ble_eq_true rfl)
    (case a5 => intro e; cases e)
    (case a6 => exact rfl)
    (case a7 => exact List.mem_append_right _ (.tail _ (.head _)))
    (case a8 => omega)
    intro v hb' tkb G tn F19 N19 hv hbare
    clear F18 N18
    (try (with_reducible apply Hid.use; with_reducible assumption)); (try dsimp only)
    ((try ((with_reducible show wpAny _ _ (execs _ _) _ _ _); (fail_if_success (with_reducible show wpAny _ _ _ Qh _ _)); refine hideQ ?_; intro Qh hQh)); repeat' ((fail_if_success (with_reducible show wpAny _ _ (exec (PySem.Stmt.Assign _ (PySem.Expr.ListComp _ _ _ _) _) _) _ _ _)); (fail_if_success (with_reducible show wpAny _ _ (exec (PySem.Stmt.For _ _ _ _ _) _) _ _ _)); (fail_if_success (with_reducible show wpAny _ _ (eval (PySem.Expr.ListComp _ _ _ _) _) _ _ _)); (fail_if_success (with_reducible show wpAny _ _ (exec (PySem.Stmt.If _ _ _ _) _) _ _ _)); (fail_if_success (with_reducible show CElt _ _ _ _ _ _ _ _ _ _ _)); (fail_if_success (with_reducible show wpAny _ _ (call (Value.ref _) _ _) _ _ _)); (first | walk1 | (dsimp only; walk1) | (with_reducible apply Hid.use; with_reducible assumption))))
    rename Fr _ _ _ _ => F20
    rename News _ _ _ _ => N20
    have hlR := News.isList N20 (List.mem_append_right tn (List.mem_append_right _ (.tail _ (.head _)) : (lr, W.listOf vr.toArray 0) ∈ _))
    have hlS2 := News.isList N20 (List.mem_append_right tn (List.mem_append_right _ (.tail _ (.tail _ (.head _))) : (ls, W.listOf vs.toArray 0) ∈ _))
    have hcS2 := News.get N20 (List.mem_append_right tn (List.mem_append_right _ (.tail _ (.tail _ (.tail _ (.head _))))))
    refine If_false ?_ fun tkc => ?_
    · clear hlS hcS hlT hcT X7 T7
      rcases hv with ⟨rfl, rfl, hz⟩ | ⟨l, zs, k, rfl, rfl, hzs, hz⟩
      · ((try ((with_reducible show wpAny _ _ (execs _ _) _ _ _); (fail_if_success (with_reducible show wpAny _ _ _ Qh _ _)); refine hideQ ?_; intro Qh hQh)); repeat' ((fail_if_success (with_reducible show wpAny _ _ (exec (PySem.Stmt.Assign _ (PySem.Expr.ListComp _ _ _ _) _) _) _ _ _)); (fail_if_success (with_reducible show wpAny _ _ (exec (PySem.Stmt.For _ _ _ _ _) _) _ _ _)); (fail_if_success (with_reducible show wpAny _ _ (eval (PySem.Expr.ListComp _ _ _ _) _) _ _ _)); (first | walk1 | (dsimp only; walk1) | (with_reducible apply Hid.use; with_reducible assumption))))
        rename (_ ≠ (0 : Int)) => q
        exact absurd (told_zero hz) q
      · ((try ((with_reducible show wpAny _ _ (execs _ _) _ _ _); (fail_if_success (with_reducible show wpAny _ _ _ Qh _ _)); refine hideQ ?_; intro Qh hQh)); repeat' ((fail_if_success (with_reducible show wpAny _ _ (exec (PySem.Stmt.Assign _ (PySem.Expr.ListComp _ _ _ _) _) _) _ _ _)); (fail_if_success (with_reducible show wpAny _ _ (exec (PySem.Stmt.For _ _ _ _ _) _) _ _ _)); (fail_if_success (with_reducible show wpAny _ _ (eval (PySem.Expr.ListComp _ _ _ _) _) _ _ _)); (first | walk1 | (dsimp only; walk1) | (with_reducible apply Hid.use; with_reducible assumption))))
        · rename (_ = (0 : Int)) => q
          exact absurd q (told_nz hz hr3)
        · rw [told_sizes _ (ruler_in _) hz, hSZ, decide_eq_true rfl]; rfl
    have N21 := fun p hp => N20 p (List.mem_append_right tn hp)
    replace N21 : News _ _ _ _ := N21
    have F21 := F20
    clear F20 N20 hlR hlS2 hcS2
    have hlW := News.isList N21 (List.mem_append_right _ (.tail _ (.tail _ (.tail _ (.tail _ (.tail _ (.head _)))))) : (lw, W.listOf (cs.map (·.2)).flatten.toArray (cs.map (·.2)).flatten.length) ∈ _)
    (try (with_reducible apply Hid.use; with_reducible assumption)); (try dsimp only)
    ((try ((with_reducible show wpAny _ _ (execs _ _) _ _ _); (fail_if_success (with_reducible show wpAny _ _ _ Qh _ _)); refine hideQ ?_; intro Qh hQh)); repeat' ((fail_if_success (with_reducible show wpAny _ _ (exec (PySem.Stmt.Assign _ (PySem.Expr.ListComp _ _ _ _) _) _) _ _ _)); (fail_if_success (with_reducible show wpAny _ _ (exec (PySem.Stmt.For _ _ _ _ _) _) _ _ _)); (fail_if_success (with_reducible show wpAny _ _ (eval (PySem.Expr.ListComp _ _ _ _) _) _ _ _)); (fail_if_success (with_reducible show wpAny _ _ (exec (PySem.Stmt.If _ _ _ _) _) _ _ _)); (fail_if_success (with_reducible show CElt _ _ _ _ _ _ _ _ _ _ _)); (fail_if_success (with_reducible show wpAny _ _ (call (Value.ref _) _ _) _ _ _)); (first | walk1 | (dsimp only; walk1) | (with_reducible apply Hid.use; with_reducible assumption))))
    rename Fr _ _ _ _ => F22
    rename News _ _ _ _ => N22
    have hR0 : Rem a.tx 0 tx.cps.toList := ⟨Nat.zero_le _, by rw [atx, htx]; rfl⟩
    have hA0 : After tx.cps.toList ps := ⟨[], (fun c hc => by cases hc), hT⟩
    rw [show (((drawnOf ts sz).flatten.length : Nat) : Int) + 1 = (((drawnOf ts sz).flatten.length + 1 : Nat) : Int) from rfl]
    refine wpAny_call ?_
    refine' ports_call (ps := ps) ?b1 ?b2 ?b3 aok aokp hR0 hA0 hps ?b5 drawn_port ?b6 X T F22 N22 ?b7 ?_
    (case b1 => exact rfl)
    (case b2 => exact Nat.le_of_ble_eq_true rfl)
    (case b3 => exact Nat.le_of_ble_eq_true rfl)
    (case b5 => omega)
    (case b6 => exact words_at hmap hwl hwf)
    (case b7 => exact hoff)
    intro lp hc tkd vp np tlc tic j lc F23 N23 hlpo hIp hRj hAj
    clear F22 N22
    (try (with_reducible apply Hid.use; with_reducible assumption)); (try dsimp only)
    ((try ((with_reducible show wpAny _ _ (execs _ _) _ _ _); (fail_if_success (with_reducible show wpAny _ _ _ Qh _ _)); refine hideQ ?_; intro Qh hQh)); repeat' ((fail_if_success (with_reducible show wpAny _ _ (exec (PySem.Stmt.Assign _ (PySem.Expr.ListComp _ _ _ _) _) _) _ _ _)); (fail_if_success (with_reducible show wpAny _ _ (exec (PySem.Stmt.For _ _ _ _ _) _) _ _ _)); (fail_if_success (with_reducible show wpAny _ _ (eval (PySem.Expr.ListComp _ _ _ _) _) _ _ _)); (fail_if_success (with_reducible show wpAny _ _ (exec (PySem.Stmt.If _ _ _ _) _) _ _ _)); (fail_if_success (with_reducible show CElt _ _ _ _ _ _ _ _ _ _ _)); (fail_if_success (with_reducible show wpAny _ _ (call (Value.ref _) _ _) _ _ _)); (first | walk1 | (dsimp only; walk1) | (with_reducible apply Hid.use; with_reducible assumption))))
    rename Fr _ _ _ _ => F24
    rename News _ _ _ _ => N24
    have hlP := News.isList N24 (List.mem_append_right _ (.head _) : (lp, W.listOf vp.toArray np) ∈ _)
    have hlW := News.isList N24 (List.mem_append_right _ (.tail _ (.tail _ (.tail _ (.tail _ (.tail _ (.tail _ (.head _))))))) : (lw, W.listOf (cs.map (·.2)).flatten.toArray (cs.map (·.2)).flatten.length) ∈ _)
    refine If_false ?_ fun tke => ?_
    · ((try ((with_reducible show wpAny _ _ (execs _ _) _ _ _); (fail_if_success (with_reducible show wpAny _ _ _ Qh _ _)); refine hideQ ?_; intro Qh hQh)); repeat' ((fail_if_success (with_reducible show wpAny _ _ (exec (PySem.Stmt.Assign _ (PySem.Expr.ListComp _ _ _ _) _) _) _ _ _)); (fail_if_success (with_reducible show wpAny _ _ (exec (PySem.Stmt.For _ _ _ _ _) _) _ _ _)); (fail_if_success (with_reducible show wpAny _ _ (eval (PySem.Expr.ListComp _ _ _ _) _) _ _ _)); (first | walk1 | (dsimp only; walk1) | (with_reducible apply Hid.use; with_reducible assumption))))
    have hlS := News.isList N24 (List.mem_append_right _ (.tail _ (.tail _ (.tail _ (.head _)))) : (ls, W.listOf vs.toArray 0) ∈ _)
    have hcS := News.get N24 (List.mem_append_right _ (.tail _ (.tail _ (.tail _ (.tail _ (.head _))))))
    (try (with_reducible apply Hid.use; with_reducible assumption)); (try dsimp only)
    ((try ((with_reducible show wpAny _ _ (execs _ _) _ _ _); (fail_if_success (with_reducible show wpAny _ _ _ Qh _ _)); refine hideQ ?_; intro Qh hQh)); repeat' ((fail_if_success (with_reducible show wpAny _ _ (exec (PySem.Stmt.Assign _ (PySem.Expr.ListComp _ _ _ _) _) _) _ _ _)); (fail_if_success (with_reducible show wpAny _ _ (exec (PySem.Stmt.For _ _ _ _ _) _) _ _ _)); (fail_if_success (with_reducible show wpAny _ _ (eval (PySem.Expr.ListComp _ _ _ _) _) _ _ _)); (fail_if_success (with_reducible show wpAny _ _ (exec (PySem.Stmt.If _ _ _ _) _) _ _ _)); (fail_if_success (with_reducible show CElt _ _ _ _ _ _ _ _ _ _ _)); (fail_if_success (with_reducible show wpAny _ _ (call (Value.ref _) _ _) _ _ _)); (first | walk1 | (dsimp only; walk1) | (with_reducible apply Hid.use; with_reducible assumption))))
    rename Fr _ _ _ _ => F25
    rename News _ _ _ _ => N25
    refine wpAny_call (c_cut rfl (Nat.le_of_ble_eq_true rfl) (Nat.le_of_ble_eq_true rfl) (X.keeps F25.keep) (T.keeps F25.keep) (News.isList N25 (List.mem_append_right _ (.head _) : (lp, W.listOf vp.toArray np) ∈ _)) hIp (News.isList N25 (List.mem_append_right _ (.tail _ (.tail _ (.tail _ (.head _)))) : (ls, W.listOf vs.toArray 0) ∈ _)) hIs (by omega) hsl hsz ?_)
    intro lcut he tkf cs2 nc st2 hcl2 hcut hall2
    obtain ⟨F26, N26⟩ := more (E := (lcut, W.listOf (refs cs2).toArray nc) :: cs2.map rowObj) F25 N25 st2 hall2
    have N27 := lay_found N26
    have hoffE := off_E N25 (fun p hp => (hall2 p hp).2)
    have hlcm := new_off_mp N25 (hall2 _ (.head _)).2
    have hlcr := list_off_rows (fun p hp => (hall2 p hp).1)
    have hrows2 := rows_cut hsz hcl2 hcut
    clear F25 N25 N26
    (try (with_reducible apply Hid.use; with_reducible assumption)); (try dsimp only)
    ((try ((with_reducible show wpAny _ _ (execs _ _) _ _ _); (fail_if_success (with_reducible show wpAny _ _ _ Qh _ _)); refine hideQ ?_; intro Qh hQh)); repeat' ((fail_if_success (with_reducible show wpAny _ _ (exec (PySem.Stmt.Assign _ (PySem.Expr.ListComp _ _ _ _) _) _) _ _ _)); (fail_if_success (with_reducible show wpAny _ _ (exec (PySem.Stmt.For _ _ _ _ _) _) _ _ _)); (fail_if_success (with_reducible show wpAny _ _ (eval (PySem.Expr.ListComp _ _ _ _) _) _ _ _)); (fail_if_success (with_reducible show wpAny _ _ (exec (PySem.Stmt.If _ _ _ _) _) _ _ _)); (fail_if_success (with_reducible show CElt _ _ _ _ _ _ _ _ _ _ _)); (fail_if_success (with_reducible show wpAny _ _ (call (Value.ref _) _ _) _ _ _)); (first | walk1 | (dsimp only; walk1) | (with_reducible apply Hid.use; with_reducible assumption))))
    rename Fr _ _ _ _ => F28
    rename News _ _ _ _ => N28
    obtain ⟨qe, hqe, hqt⟩ := last_word hmap
    rw [show (drawnOf ts sz).flatten.length + 1 = ws.length from by rw [hwl, List.length_append]; rfl, hqe] at hAj
    have hqo : qe.Ok := hps qe (List.mem_of_mem_drop (by rw [hqe]; exact .head _))
    refine wpAny_call ?_
    refine' found_call ?f1 ?f2 ?f3 aok aokp hRj hAj hqo hrows2 (cls_in hsz) (by rw [cls_len]; exact hsl) X T F28 N28 ?f4 ⟨hlcm, hlcr⟩ ?_
    (case f1 => exact rfl)
    (case f2 => exact Nat.le_of_ble_eq_true rfl)
    (case f3 => exact Nat.le_of_ble_eq_true rfl)
    case f4 =>
      intro p hp
      refine ⟨?_, fun hm => hoffE p (List.mem_append_right _ hp) (List.mem_cons_of_mem _ hm)⟩
      rcases List.mem_cons.mp hp with rfl | hp
      · exact hlpo
      · exact hoff p hp
    intro lr3 lF lK U tv frows kk nF nK n' jj tlf tif lf hf tkg F29 hRf hAf hU hfr hkk hgood N29
    (try (with_reducible apply Hid.use; with_reducible assumption)); (try dsimp only)
    ((try ((with_reducible show wpAny _ _ (execs _ _) _ _ _); (fail_if_success (with_reducible show wpAny _ _ _ Qh _ _)); refine hideQ ?_; intro Qh hQh)); repeat' ((fail_if_success (with_reducible show wpAny _ _ (exec (PySem.Stmt.Assign _ (PySem.Expr.ListComp _ _ _ _) _) _) _ _ _)); (fail_if_success (with_reducible show wpAny _ _ (exec (PySem.Stmt.For _ _ _ _ _) _) _ _ _)); (fail_if_success (with_reducible show wpAny _ _ (eval (PySem.Expr.ListComp _ _ _ _) _) _ _ _)); (fail_if_success (with_reducible show wpAny _ _ (exec (PySem.Stmt.If _ _ _ _) _) _ _ _)); (fail_if_success (with_reducible show CElt _ _ _ _ _ _ _ _ _ _ _)); (fail_if_success (with_reducible show wpAny _ _ (call (Value.ref _) _ _) _ _ _)); (first | walk1 | (dsimp only; walk1) | (with_reducible apply Hid.use; with_reducible assumption))))
    obtain rfl : U = Str.ofString "end" := str_ext (hU.trans hqt)
    rename Fr _ _ _ _ => F30
    rename News _ _ _ _ => N30
    have hlF := news_lst N30 (List.mem_append_right _ (.tail _ (.head _)) : (lF, W.listOf (refs frows).toArray nF) ∈ _)
    have hlK := news_lst N30 (List.mem_append_right _ (.tail _ (.tail _ (.head _))) : (lK, W.listOf (refs frows).toArray nK) ∈ _)
    refine If_false ?_ fun tkh => ?_
    · ((try ((with_reducible show wpAny _ _ (execs _ _) _ _ _); (fail_if_success (with_reducible show wpAny _ _ _ Qh _ _)); refine hideQ ?_; intro Qh hQh)); repeat' ((fail_if_success (with_reducible show wpAny _ _ (exec (PySem.Stmt.Assign _ (PySem.Expr.ListComp _ _ _ _) _) _) _ _ _)); (fail_if_success (with_reducible show wpAny _ _ (exec (PySem.Stmt.For _ _ _ _ _) _) _ _ _)); (fail_if_success (with_reducible show wpAny _ _ (eval (PySem.Expr.ListComp _ _ _ _) _) _ _ _)); (fail_if_success (with_reducible show wpAny _ _ (compareOp CmpOp.NotEq (Value.ref _) (Value.ref _)) _ _ _)); (fail_if_success (with_reducible show wpAny _ _ (call (Value.ref _) _ _) _ _ _)); (first | walk1 | (dsimp only; walk1) | (with_reducible apply Hid.use; with_reducible assumption))))
      refine ne_same_list hlK hlF (Nat.lt_of_succ_le (Nat.le_of_ble_eq_true rfl)) ?_
      ((try ((with_reducible show wpAny _ _ (execs _ _) _ _ _); (fail_if_success (with_reducible show wpAny _ _ _ Qh _ _)); refine hideQ ?_; intro Qh hQh)); repeat' ((fail_if_success (with_reducible show wpAny _ _ (exec (PySem.Stmt.Assign _ (PySem.Expr.ListComp _ _ _ _) _) _) _ _ _)); (fail_if_success (with_reducible show wpAny _ _ (exec (PySem.Stmt.For _ _ _ _ _) _) _ _ _)); (fail_if_success (with_reducible show wpAny _ _ (eval (PySem.Expr.ListComp _ _ _ _) _) _ _ _)); (first | walk1 | (dsimp only; walk1) | (with_reducible apply Hid.use; with_reducible assumption))))
    (try (with_reducible apply Hid.use; with_reducible assumption)); (try dsimp only)
    ((try ((with_reducible show wpAny _ _ (execs _ _) _ _ _); (fail_if_success (with_reducible show wpAny _ _ _ Qh _ _)); refine hideQ ?_; intro Qh hQh)); repeat' ((fail_if_success (with_reducible show wpAny _ _ (exec (PySem.Stmt.Assign _ (PySem.Expr.ListComp _ _ _ _) _) _) _ _ _)); (fail_if_success (with_reducible show wpAny _ _ (exec (PySem.Stmt.For _ _ _ _ _) _) _ _ _)); (fail_if_success (with_reducible show wpAny _ _ (eval (PySem.Expr.ListComp _ _ _ _) _) _ _ _)); (fail_if_success (with_reducible show wpAny _ _ (compareOp CmpOp.NotEq (Value.ref _) (Value.ref _)) _ _ _)); (fail_if_success (with_reducible show wpAny _ _ (call (Value.ref _) _ _) _ _ _)); (first | walk1 | (dsimp only; walk1) | (with_reducible apply Hid.use; with_reducible assumption))))
    rename Fr _ _ _ _ => F31
    rename News _ _ _ _ => N31
    refine wpAny_call (c_bitsL (rows := cs) (cls := drawnOf ts sz) rfl (Nat.le_of_ble_eq_true rfl) (Nat.le_of_ble_eq_true rfl) (X.keeps F31.keep) (T.keeps F31.keep)
      (news_lst N31 (List.mem_append_right _ (.tail _ (.tail _ (.tail _ (List.mem_append_right _ (.tail _ (.tail _ (.tail _ (.tail _ (.tail _ (.tail _ (.tail _ (.head _)))))))))))) : (D, W.listOf (cs.map fun c => Value.ref c.1).toArray (cs.map fun c => Value.ref c.1).length) ∈ _))
      (fun r hr => news_lst N31 (List.mem_append_right _ (.tail _ (.tail _ (.tail _ (List.mem_append_right _ (.tail _ (.tail _ (.tail _ (.tail _ (.tail _ (.tail _ (.tail _ (.tail _ (List.mem_map.mpr ⟨r, hr, rfl⟩))))))))))))) : (r.1, W.listOf r.2.toArray r.2.length) ∈ _))
      (by rw [hcl, drawn_len]) (fun k r c hr hc => ?_) (by rw [drawn_len]; omega) (drawn_form hsz) ?_)
    · have hk : k < sz.length := by rw [← hcl]; exact (List.getElem?_eq_some_iff.mp hr).1
      rw [drawn_get hk] at hc; cases hc
      exact hcs k r hr
    intro l1 hg tki v1 k1 e0 e1 hI1
    obtain ⟨F32, N32⟩ := one_more F31 N31 k1 e0 e1
    clear e0 e1 k1 F31 N31
    (try (with_reducible apply Hid.use; with_reducible assumption)); (try dsimp only)
    ((try ((with_reducible show wpAny _ _ (execs _ _) _ _ _); (fail_if_success (with_reducible show wpAny _ _ _ Qh _ _)); refine hideQ ?_; intro Qh hQh)); repeat' ((fail_if_success (with_reducible show wpAny _ _ (exec (PySem.Stmt.Assign _ (PySem.Expr.ListComp _ _ _ _) _) _) _ _ _)); (fail_if_success (with_reducible show wpAny _ _ (exec (PySem.Stmt.For _ _ _ _ _) _) _ _ _)); (fail_if_success (with_reducible show wpAny _ _ (eval (PySem.Expr.ListComp _ _ _ _) _) _ _ _)); (fail_if_success (with_reducible show wpAny _ _ (compareOp CmpOp.NotEq (Value.ref _) (Value.ref _)) _ _ _)); (fail_if_success (with_reducible show wpAny _ _ (call (Value.ref _) _ _) _ _ _)); (first | walk1 | (dsimp only; walk1) | (with_reducible apply Hid.use; with_reducible assumption))))
    rename Fr _ _ _ _ => F33
    rename News _ _ _ _ => N33
    refine wpAny_call (c_follow rfl (Nat.le_of_ble_eq_true rfl) (Nat.le_of_ble_eq_true rfl) (X.keeps F33.keep) (T.keeps F33.keep) (news_lst N33 (.head _)) hI1 (by rw [List.length_map, drawn_len]; omega) ?_)
    intro l2 hh2 tkj v2 k2 e0 e1 hJ2
    obtain ⟨F34, N34⟩ := one_more F33 N33 k2 e0 e1
    clear e0 e1 k2 F33 N33
    (try (with_reducible apply Hid.use; with_reducible assumption)); (try dsimp only)
    ((try ((with_reducible show wpAny _ _ (execs _ _) _ _ _); (fail_if_success (with_reducible show wpAny _ _ _ Qh _ _)); refine hideQ ?_; intro Qh hQh)); repeat' ((fail_if_success (with_reducible show wpAny _ _ (exec (PySem.Stmt.Assign _ (PySem.Expr.ListComp _ _ _ _) _) _) _ _ _)); (fail_if_success (with_reducible show wpAny _ _ (exec (PySem.Stmt.For _ _ _ _ _) _) _ _ _)); (fail_if_success (with_reducible show wpAny _ _ (eval (PySem.Expr.ListComp _ _ _ _) _) _ _ _)); (fail_if_success (with_reducible show wpAny _ _ (compareOp CmpOp.NotEq (Value.ref _) (Value.ref _)) _ _ _)); (fail_if_success (with_reducible show wpAny _ _ (call (Value.ref _) _ _) _ _ _)); (first | walk1 | (dsimp only; walk1) | (with_reducible apply Hid.use; with_reducible assumption))))
    rename Fr _ _ _ _ => F35
    rename News _ _ _ _ => N35
    refine wpAny_call (c_bitsT (rows := frows) (cls := FF (clsOf ts sz) kk) rfl (Nat.le_of_ble_eq_true rfl) (Nat.le_of_ble_eq_true rfl) (X.keeps F35.keep) (T.keeps F35.keep)
      (news_lst N35 (List.mem_cons_of_mem _ (List.mem_cons_of_mem _ (List.mem_append_right _ (.tail _ (.head _)))) : (lF, W.listOf (refs frows).toArray nF) ∈ _))
      (fun r hr => news_tup N35 (.tail _ (.tail _ (List.mem_append_right _ (.tail _ (.tail _ (.tail _ (List.mem_append_left _ (List.mem_map.mpr ⟨r, hr, rfl⟩)))))))))
      hfr.length (fun k r c hr hc => ?_) (by have := hgood.len; omega) (fun c hc => all27_len c (hgood.sub c hc)) ?_)
    · obtain ⟨c', z1, z2⟩ := hfr.at hr
      rw [hc] at z1; cases z1
      exact z2
    intro l3 hh3 tkk v3 k3 e0 e1 hJ3
    obtain ⟨F36, N36⟩ := one_more F35 N35 k3 e0 e1
    clear e0 e1 k3 F35 N35
    (try (with_reducible apply Hid.use; with_reducible assumption)); (try dsimp only)
    ((try ((with_reducible show wpAny _ _ (execs _ _) _ _ _); (fail_if_success (with_reducible show wpAny _ _ _ Qh _ _)); refine hideQ ?_; intro Qh hQh)); repeat' ((fail_if_success (with_reducible show wpAny _ _ (exec (PySem.Stmt.Assign _ (PySem.Expr.ListComp _ _ _ _) _) _) _ _ _)); (fail_if_success (with_reducible show wpAny _ _ (exec (PySem.Stmt.For _ _ _ _ _) _) _ _ _)); (fail_if_success (with_reducible show wpAny _ _ (eval (PySem.Expr.ListComp _ _ _ _) _) _ _ _)); (fail_if_success (with_reducible show wpAny _ _ (compareOp CmpOp.NotEq (Value.ref _) (Value.ref _)) _ _ _)); (fail_if_success (with_reducible show wpAny _ _ (call (Value.ref _) _ _) _ _ _)); (first | walk1 | (dsimp only; walk1) | (with_reducible apply Hid.use; with_reducible assumption))))
    rename Fr _ _ _ _ => F37
    rename News _ _ _ _ => N37
    refine wpAny_call (c_have rfl (Nat.le_of_ble_eq_true rfl) (Nat.le_of_ble_eq_true rfl) (X.keeps F37.keep) (T.keeps F37.keep) (news_lst N37 (.head _)) hJ3 (by rw [List.length_map]; have := hgood.len; omega) (fun x hx => by
      obtain ⟨c, hc, rfl⟩ := List.mem_map.mp hx
      exact masks_small c (hgood.sub c hc)) ?_)
    intro l4 hh4 tkl v4 k4 e0 e1 hJ4
    obtain ⟨F38, N38⟩ := one_more F37 N37 k4 e0 e1
    clear e0 e1 k4 F37 N37
    (try (with_reducible apply Hid.use; with_reducible assumption)); (try dsimp only)
    ((try ((with_reducible show wpAny _ _ (execs _ _) _ _ _); (fail_if_success (with_reducible show wpAny _ _ _ Qh _ _)); refine hideQ ?_; intro Qh hQh)); repeat' ((fail_if_success (with_reducible show wpAny _ _ (exec (PySem.Stmt.Assign _ (PySem.Expr.ListComp _ _ _ _) _) _) _ _ _)); (fail_if_success (with_reducible show wpAny _ _ (exec (PySem.Stmt.For _ _ _ _ _) _) _ _ _)); (fail_if_success (with_reducible show wpAny _ _ (eval (PySem.Expr.ListComp _ _ _ _) _) _ _ _)); (fail_if_success (with_reducible show wpAny _ _ (compareOp CmpOp.NotEq (Value.ref _) (Value.ref _)) _ _ _)); (fail_if_success (with_reducible show wpAny _ _ (call (Value.ref _) _ _) _ _ _)); (first | walk1 | (dsimp only; walk1) | (with_reducible apply Hid.use; with_reducible assumption))))
    rename Fr _ _ _ _ => F39
    rename News _ _ _ _ => N39
    refine ne_intsK (news_lst N39 (List.mem_cons_of_mem _ (List.mem_cons_of_mem _ (.head _)) : (l2, W.listOf v2.toArray v2.length) ∈ _)) hJ2 (news_lst N39 (.head _)) hJ4 (Nat.lt_of_succ_le (Nat.le_of_ble_eq_true rfl)) ?_
    rw [law_plain hsz hkk hgood, decide_eq_true rfl]
    have N40 : News _ _ _ (a.MP w jj tlf tif [] n' ++ [(130, tabObj p130)]) := fun p hp => by
      rcases List.mem_append.mp hp with hp | hp
      · exact N39 p (.tail _ (.tail _ (.tail _ (.tail _ (List.mem_append_left _ hp)))))
      · rcases List.mem_singleton.mp hp with rfl
        exact N39 _ (.tail _ (.tail _ (.tail _ (.tail _ (List.mem_append_right _ (.tail _ (.tail _ (.tail _ (List.mem_append_right _ (.tail _ (.head _)))))))))))
    clear N39 hlF hlK
    (try (with_reducible apply Hid.use; with_reducible assumption)); (try dsimp only)
    ((try ((with_reducible show wpAny _ _ (execs _ _) _ _ _); (fail_if_success (with_reducible show wpAny _ _ _ Qh _ _)); refine hideQ ?_; intro Qh hQh)); repeat' ((fail_if_success (with_reducible show wpAny _ _ (exec (PySem.Stmt.Assign _ (PySem.Expr.ListComp _ _ _ _) _) _) _ _ _)); (fail_if_success (with_reducible show wpAny _ _ (exec (PySem.Stmt.For _ _ _ _ _) _) _ _ _)); (fail_if_success (with_reducible show wpAny _ _ (eval (PySem.Expr.ListComp _ _ _ _) _) _ _ _)); (fail_if_success (with_reducible show wpAny _ _ (execs [PySem.Stmt.Return _ _] _) _ _ _)); (fail_if_success (with_reducible show wpAny _ _ (compareOp CmpOp.NotEq (Value.ref _) (Value.ref _)) _ _ _)); (fail_if_success (with_reducible show wpAny _ _ (call (Value.ref _) _ _) _ _ _)); (first | walk1 | (dsimp only; walk1) | (with_reducible apply Hid.use; with_reducible assumption))))
    rename Fr _ _ _ _ => F41
    rename News _ _ _ _ => N41
    refine wpAny_mono (key _ ⟨a, jj, n', lf, tlf, tif, 0, tkx, p130, _, aok, aokp, hRf, hAf, F41, ?_, N41, hoff (130, tabObj p130) (.head _), hbare (fun x hx => by dsimp only at hx; rw [hgens] at hx; simp at hx), rfl⟩) ?_ (fun _ _ e => e)
    all_goals first
      | (intro f s' q
         with_reducible apply Hid.use
         (with_reducible assumption)
         exact q)
      | (intro p hp
         simp only [List.mem_cons, List.not_mem_nil, or_false] at hp
         rcases hp with rfl | rfl
         · rfl
         · rw [atx, htx]; rfl)
  · exact rsmall _ (by omega)
  · exact rsize _
  · rw [sizeLine_eq]; omega)

end
end Mine
end
theorem PySem.Challenge.cw_wo0020_01_holds : PySem.Challenge.rw_wo0020_01.Holds :=
  Mine.law_try
